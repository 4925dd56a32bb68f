import PyProof.Rows.All
import Wide.All
import OpenK.AllK
import Wide.FinOn
import KE.KLcPair
import KE.KSliceW
import Lean
import PySem.Challenge.RW_rl0109_01

section
open PySem PySem.W PyProof.Rows
set_option Elab.async false
namespace Mine

/-- the living object at a place of the tree -/
noncomputable def atT (T : BT) (n a : Nat) : Option Obj := cond (Nat.blt a n) ((T.get a).bind alive) none
/-- one frame's tree run to its end, over a heap that is a tree of objects, n of them, tk tokens handed out; calls are run within -/
noncomputable def evR (den : Code → Sem Fin) (prog : Program) (P : Params) : Nat → Ctx → Pos → Sem Fin → BT → Nat → Nat → Option (Result × BT × Nat × Nat)
  | 0, _, _, _, _, _, _ => none
  | f + 1, Γ, p, t, T, n, tk => match t with
    | .pure fin => match fin with
      | .done fl => some (.ok fl, T, n, tk)
      | .again c => cond c.quiet (evR den prog P f (Γ.goto c) p (den c) T n tk) none
    | .raise e => some (.error e, T, n, tk)
    | .rule _ k => evR den prog P f Γ p (k ()) T n tk
    | .at p' k => evR den prog P f Γ p' (k ()) T n tk
    | .point _ k => evR den prog P f Γ p (k ()) T n tk
    | .load a _ k => (atT T n a).bind fun o => evR den prog P f Γ p (k o) T n tk
    | .update a _ g k => (atT T n a).bind fun _ => evR den prog P f Γ p (k ()) (T.set a g) n tk
    | .alloc o k => cond ((T.ins n o).get n).isSome (evR den prog P f Γ p (k n) (T.ins n o) (n + 1) tk) none
    | .loadIfAlive a k => cond (Nat.blt a n) ((T.get a).bind fun o => evR den prog P f Γ p (k (alive o)) T n tk) (evR den prog P f Γ p (k none) T n tk)
    | .fresh k => evR den prog P f Γ p (k tk) T n (tk + 1)
    | .ask k => evR den prog P f Γ p (k ⟨prog, P⟩) T n tk
    | .handled own k => evR den prog P f Γ p (k (if own then Γ.own else Γ.handled)) T n tk
    | .stack k => evR den prog P f Γ p (k ((Γ.code, p) :: Γ.below)) T n tk
    | .thread k => evR den prog P f Γ p (k 0) T n tk
    | .call c h _ _ k => (evR den prog P f (Γ.enter c h p) p (den c) T n tk).bind fun q => evR den prog P f Γ p (k q.1) q.2.1 q.2.2.1 q.2.2.2
    | _ => none

/-- the heap bears the tree's objects, and has n places -/
structure RepT (h : Heap) (T : BT) (n : Nat) : Prop where
  size : h.objs.size = n
  obj : ∀ i o, T.get i = some o → i < n → h.objs[i]? = some o

theorem blt_lt {a b : Nat} (h : Nat.blt a b = true) : a < b := Nat.le_of_ble_eq_true h
theorem blt_ge {a b : Nat} (h : Nat.blt a b = false) : b ≤ a := Nat.le_of_not_lt fun q => by
  have : Nat.blt a b = true := Nat.ble_eq_true_of_le q
  rw [this] at h; cases h

theorem get_of_objs {h : Heap} {a : Nat} {o : Obj} (e : h.objs[a]? = some o) : h.get? a = alive o := by
  unfold Heap.get?
  rw [e]
  obtain ⟨c, d, dt, sl⟩ := o
  cases dt <;> rfl
theorem RepT.get {h : Heap} {T : BT} {n a : Nat} {o : Obj} (R : RepT h T n) (b : Nat.blt a n = true) (g : T.get a = some o) : h.get? a = alive o := get_of_objs (R.obj a o g (blt_lt b))
theorem RepT.look {h : Heap} {T : BT} {n a : Nat} {o : Obj} (R : RepT h T n) (b : Nat.blt a n = true) (g : T.get a = some o) (l : alive o = some o) : h.get? a = some o := (R.get b g).trans l
theorem RepT.none {h : Heap} {T : BT} {n a : Nat} (R : RepT h T n) (b : Nat.blt a n = false) : h.get? a = none := by
  unfold Heap.get?
  rw [Array.getElem?_eq_none (by rw [R.size]; exact blt_ge b)]
theorem RepT.update {h : Heap} {T : BT} {n a : Nat} {o : Obj} {f : Obj → Obj} (R : RepT h T n) (g : T.get a = some o) (b : Nat.blt a n = true) : RepT (h.update a f) (T.set a f) n := by
  obtain ⟨objs, life⟩ := h
  refine ⟨by show (objs.modify a f).size = n; rw [Array.size_modify]; exact R.size, fun i o' e hi => ?_⟩
  show (objs.modify a f)[i]? = some o'
  rw [BT.get_set] at e
  rw [Array.getElem?_modify]
  by_cases q : i = a
  · subst q
    rw [if_pos rfl, g] at e
    have z : objs[i]? = some o := R.obj i o g hi
    rw [if_pos rfl, z]
    exact e
  · rw [if_neg q] at e
    rw [if_neg (Ne.symm q)]
    exact R.obj i o' e hi
theorem RepT.push {h : Heap} {T : BT} {n : Nat} {o : Obj} (R : RepT h T n) (g : ((T.ins n o).get n).isSome = true) : RepT (h.push o) (T.ins n o) (n + 1) := by
  obtain ⟨objs, life⟩ := h
  have hs : objs.size = n := R.size
  refine ⟨by show (objs.push o).size = n + 1; rw [Array.size_push, hs], fun i o' e hi => ?_⟩
  show (objs.push o)[i]? = some o'
  rw [BT.get_ins o T n g] at e
  rw [Array.getElem?_push, hs]
  by_cases q : i = n
  · rw [if_pos q] at e ⊢; exact e
  · rw [if_neg q] at e ⊢
    exact R.obj i o' e (by omega)

/-- what stays: generators, draws, the outside -/
noncomputable def SameRest (s s' : Shared) : Prop := s'.gens = s.gens ∧ s'.drawn = s.drawn ∧ s'.os = s.os
theorem SameRest.refl (s : Shared) : SameRest s s := ⟨rfl, rfl, rfl⟩
theorem SameRest.trans {a b c : Shared} (x : SameRest a b) (y : SameRest b c) : SameRest a c := ⟨y.1.trans x.1, y.2.1.trans x.2.1, y.2.2.trans x.2.2⟩

theorem atT_some {T : BT} {n a : Nat} {o : Obj} (e : atT T n a = some o) : Nat.blt a n = true ∧ ∃ o', T.get a = some o' ∧ alive o' = some o := by
  unfold atT at e
  cases b : Nat.blt a n with
  | false => rw [b] at e; cases e
  | true =>
    rw [b] at e
    exact ⟨rfl, Option.bind_eq_some_iff.mp e⟩
theorem cond_some {α : Type} {b : Bool} {x : Option α} {y : α} (e : cond b x none = some y) : b = true ∧ x = some y := by
  cases b with
  | false => cases e
  | true => exact ⟨rfl, e⟩
theorem evR_sound {prog : Program} {w : World} : ∀ (f : Nat) (Γ : Ctx) (p : Pos) (t : Sem Fin) (T : BT) (n tk : Nat) (r : Result) (T' : BT) (n' tk' : Nat),
    evR (denote table) prog w.params f Γ p t T n tk = some (r, T', n', tk') → ∀ s : Shared, RepT s.heap T n → s.toks = tk →
    ∃ s', Runs (model prog w) Γ p t [] s (.ret r) s' ∧ RepT s'.heap T' n' ∧ s'.toks = tk' ∧ SameRest s s' := by
  intro f
  induction f with
  | zero => intro Γ p t T n tk r T' n' tk' h; cases h
  | succ f ih =>
    intro Γ p t T n tk r T' n' tk' h s R k
    cases t with
    | pure fin =>
      cases fin with
      | done fl => cases h; exact ⟨s, .done, R, k, .refl _⟩
      | again c =>
        obtain ⟨q, h⟩ := cond_some h
        obtain ⟨s', x, y⟩ := ih _ _ _ _ _ _ _ _ _ _ h s R k
        exact ⟨s', .again q x, y⟩
    | raise e => cases h; exact ⟨s, .raise, R, k, .refl _⟩
    | rule tag k' => obtain ⟨s', x, y⟩ := ih _ _ _ _ _ _ _ _ _ _ h s R k; exact ⟨s', .rule x, y⟩
    | «at» p' k' => obtain ⟨s', x, y⟩ := ih _ _ _ _ _ _ _ _ _ _ h s R k; exact ⟨s', .at x, y⟩
    | point l k' => obtain ⟨s', x, y⟩ := ih _ _ _ _ _ _ _ _ _ _ h s R k; exact ⟨s', .point x, y⟩
    | load a q k' =>
      obtain ⟨o, e, h⟩ := Option.bind_eq_some_iff.mp h
      obtain ⟨b, o', g, g'⟩ := atT_some e
      obtain ⟨s', x, y⟩ := ih _ _ _ _ _ _ _ _ _ _ h s R k
      exact ⟨s', .load ((R.get b g).trans g') x, y⟩
    | update a q u k' =>
      obtain ⟨o, e, h⟩ := Option.bind_eq_some_iff.mp h
      obtain ⟨b, o', g, g'⟩ := atT_some e
      obtain ⟨s', x, y1, y2, y3⟩ := ih _ _ _ _ _ _ _ _ _ _ h { s with heap := s.heap.update a u } (R.update g b) k
      exact ⟨s', .update (by rw [R.get b g, g']; rfl) x, y1, y2, y3⟩
    | alloc o k' =>
      obtain ⟨g, h⟩ := cond_some h
      obtain ⟨s', x, y1, y2, y3⟩ := ih _ _ _ _ _ _ _ _ _ _ h { s with heap := s.heap.push o } (R.push g) k
      refine ⟨s', .alloc ?_, y1, y2, y3⟩
      rw [R.size]; exact x
    | loadIfAlive a k' =>
      replace h : cond (Nat.blt a n) _ _ = some (r, T', n', tk') := h
      cases b : Nat.blt a n with
      | true =>
        rw [b] at h
        obtain ⟨o, g, h⟩ := Option.bind_eq_some_iff.mp h
        obtain ⟨s', x, y⟩ := ih _ _ _ _ _ _ _ _ _ _ h s R k
        exact ⟨s', .loadIfAlive (by rw [R.get b g]; exact x), y⟩
      | false =>
        rw [b] at h
        obtain ⟨s', x, y⟩ := ih _ _ _ _ _ _ _ _ _ _ h s R k
        exact ⟨s', .loadIfAlive (by rw [R.none b]; exact x), y⟩
    | fresh k' =>
      obtain ⟨s', x, y1, y2, y3⟩ := ih _ _ _ _ _ _ _ _ _ _ h { s with toks := s.toks + 1 } R (by rw [k])
      exact ⟨s', .fresh (by rw [k] at x ⊢; exact x), y1, y2, y3⟩
    | ask k' => obtain ⟨s', x, y⟩ := ih _ _ _ _ _ _ _ _ _ _ h s R k; exact ⟨s', .ask x, y⟩
    | handled own k' => obtain ⟨s', x, y⟩ := ih _ _ _ _ _ _ _ _ _ _ h s R k; exact ⟨s', .handled x, y⟩
    | stack k' => obtain ⟨s', x, y⟩ := ih _ _ _ _ _ _ _ _ _ _ h s R k; exact ⟨s', .stack x, y⟩
    | thread k' => obtain ⟨s', x, y⟩ := ih _ _ _ _ _ _ _ _ _ _ h s R k; exact ⟨s', .thread x, y⟩
    | call c hd g l k' =>
      obtain ⟨⟨r₁, T₁, n₁, tk₁⟩, e, h⟩ := Option.bind_eq_some_iff.mp h
      obtain ⟨s₁, x, y1, y2, y3⟩ := ih _ _ _ _ _ _ _ _ _ _ e s R k
      obtain ⟨s', z, u1, u2, u3⟩ := ih _ _ _ _ _ _ _ _ _ _ h s₁ y1 y2
      exact ⟨s', .call x z, u1, u2, y3.trans u3⟩
    | _ => exact absurd (show none = some (r, T', n', tk') from h) (fun q => nomatch q)

/-- what a run of a tree to a value says of wp -/
theorem wp_of_ev {α : Type} {prog : Program} {w : World} {f : Nat} {Γ : Ctx} {p : Pos} {m : Sem α} (j : α → Flow) (hj : ∀ a b, j a = j b → a = b) {v : α} {T T' : BT} {n n' tk tk' : Nat}
    (h : evR (denote treeTable) prog w.params f Γ p (m.bind fun a => .pure (.done (j a))) T n tk = some (.ok (j v), T', n', tk')) (s : Shared) (R : RepT s.heap T n) (k : s.toks = tk) :
    Sem.wp (model prog w) Γ m (fun a _ s₁ => a = v ∧ RepT s₁.heap T' n' ∧ s₁.toks = tk' ∧ SameRest s s₁) (fun _ _ _ => False) p s := by
  rw [← table_eq_tree] at h
  obtain ⟨s₁, z, u⟩ := evR_sound _ _ _ _ _ _ _ _ _ _ _ h s R k
  have y := (Sem.wp_iff_runs (M := model prog w) (Γ := Γ) (m.bind fun a => .pure (.done (j a))) (fun r s₂ => r = .ok (j v) ∧ s₂ = s₁) p s).mpr ⟨_, _, z, rfl, rfl⟩
  rw [Sem.wp_bind] at y
  refine Sem.wp_mono _ _ _ (fun a q s₂ x => ?_) (fun e q s₂ x => ?_) _ _ y
  · rw [Sem.wp_pure] at x
    obtain ⟨x1, x2⟩ := x
    cases hj _ _ (by injection x1)
    subst x2
    exact ⟨rfl, u⟩
  · obtain ⟨x1, _⟩ := x
    cases x1
end Mine
end

section
open PySem PySem.W PyProof.Rows
set_option Elab.async false
set_option maxRecDepth 100000
set_option maxHeartbeats 0
set_option linter.unusedVariables false
namespace Mine
noncomputable abbrev pw : Program := PySem.Challenge.pw_rl0109_01
noncomputable abbrev sT (x : String) : Str := PySem.Str.ofString x
noncomputable def fnP (i : Nat) : Arguments := match pw.main.body[i]? with | some (.FunctionDef _ a _ _ _ _ _ _ _ _) => a | _ => ⟨[], [], none, [], [], none, []⟩
noncomputable def fnB (i : Nat) : List Stmt := match pw.main.body[i]? with | some (.FunctionDef _ _ b _ _ _ _ _ _ _) => b | _ => []
noncomputable def fnS (i : Nat) : Scope := match pw.main.body[i]? with | some (.FunctionDef _ _ _ _ _ _ s _ _ _) => s | _ => default

noncomputable def o0Z (P : Params) : Obj := ⟨(.type "dict"), none, (.dict #[⟨(PyData.keyHash P (sT "__name__")), (.str (sT "__name__") 1), (.str (sT "builtins") 160)⟩, ⟨(PyData.keyHash P (sT "__doc__")), (.str (sT "__doc__") 2), (.builtin "builtins.__doc__:str#opaque")⟩, ⟨(PyData.keyHash P (sT "__package__")), (.str (sT "__package__") 3), (.builtin "builtins.__package__:str#opaque")⟩, ⟨(PyData.keyHash P (sT "__loader__")), (.str (sT "__loader__") 4), (.builtin "builtins.__loader__:shared#opaque")⟩, ⟨(PyData.keyHash P (sT "__spec__")), (.str (sT "__spec__") 5), (.builtin "builtins.__spec__#opaque")⟩, ⟨(PyData.keyHash P (sT "__build_class__")), (.str (sT "__build_class__") 6), (.builtin "__build_class__")⟩, ⟨(PyData.keyHash P (sT "__import__")), (.str (sT "__import__") 7), (.builtin "__import__")⟩, ⟨(PyData.keyHash P (sT "abs")), (.str (sT "abs") 8), (.builtin "abs")⟩, ⟨(PyData.keyHash P (sT "all")), (.str (sT "all") 9), (.builtin "all")⟩, ⟨(PyData.keyHash P (sT "any")), (.str (sT "any") 10), (.builtin "any")⟩, ⟨(PyData.keyHash P (sT "ascii")), (.str (sT "ascii") 11), (.builtin "ascii")⟩, ⟨(PyData.keyHash P (sT "bin")), (.str (sT "bin") 12), (.builtin "bin")⟩, ⟨(PyData.keyHash P (sT "breakpoint")), (.str (sT "breakpoint") 13), (.builtin "breakpoint")⟩, ⟨(PyData.keyHash P (sT "callable")), (.str (sT "callable") 14), (.builtin "callable")⟩, ⟨(PyData.keyHash P (sT "chr")), (.str (sT "chr") 15), (.builtin "chr")⟩, ⟨(PyData.keyHash P (sT "compile")), (.str (sT "compile") 16), (.builtin "compile")⟩, ⟨(PyData.keyHash P (sT "delattr")), (.str (sT "delattr") 17), (.builtin "delattr")⟩, ⟨(PyData.keyHash P (sT "dir")), (.str (sT "dir") 18), (.builtin "dir")⟩, ⟨(PyData.keyHash P (sT "divmod")), (.str (sT "divmod") 19), (.builtin "divmod")⟩, ⟨(PyData.keyHash P (sT "eval")), (.str (sT "eval") 20), (.builtin "eval")⟩, ⟨(PyData.keyHash P (sT "exec")), (.str (sT "exec") 21), (.builtin "exec")⟩, ⟨(PyData.keyHash P (sT "format")), (.str (sT "format") 22), (.builtin "format")⟩, ⟨(PyData.keyHash P (sT "getattr")), (.str (sT "getattr") 23), (.builtin "getattr")⟩, ⟨(PyData.keyHash P (sT "globals")), (.str (sT "globals") 24), (.builtin "globals")⟩, ⟨(PyData.keyHash P (sT "hasattr")), (.str (sT "hasattr") 25), (.builtin "hasattr")⟩, ⟨(PyData.keyHash P (sT "hash")), (.str (sT "hash") 26), (.builtin "hash")⟩, ⟨(PyData.keyHash P (sT "hex")), (.str (sT "hex") 27), (.builtin "hex")⟩, ⟨(PyData.keyHash P (sT "id")), (.str (sT "id") 28), (.builtin "id")⟩, ⟨(PyData.keyHash P (sT "input")), (.str (sT "input") 29), (.builtin "input")⟩, ⟨(PyData.keyHash P (sT "isinstance")), (.str (sT "isinstance") 30), (.builtin "isinstance")⟩, ⟨(PyData.keyHash P (sT "issubclass")), (.str (sT "issubclass") 31), (.builtin "issubclass")⟩, ⟨(PyData.keyHash P (sT "iter")), (.str (sT "iter") 32), (.builtin "iter")⟩, ⟨(PyData.keyHash P (sT "aiter")), (.str (sT "aiter") 33), (.builtin "aiter")⟩, ⟨(PyData.keyHash P (sT "len")), (.str (sT "len") 34), (.builtin "len")⟩, ⟨(PyData.keyHash P (sT "locals")), (.str (sT "locals") 35), (.builtin "locals")⟩, ⟨(PyData.keyHash P (sT "max")), (.str (sT "max") 36), (.builtin "max")⟩, ⟨(PyData.keyHash P (sT "min")), (.str (sT "min") 37), (.builtin "min")⟩, ⟨(PyData.keyHash P (sT "next")), (.str (sT "next") 38), (.builtin "next")⟩, ⟨(PyData.keyHash P (sT "anext")), (.str (sT "anext") 39), (.builtin "anext")⟩, ⟨(PyData.keyHash P (sT "oct")), (.str (sT "oct") 40), (.builtin "oct")⟩, ⟨(PyData.keyHash P (sT "ord")), (.str (sT "ord") 41), (.builtin "ord")⟩, ⟨(PyData.keyHash P (sT "pow")), (.str (sT "pow") 42), (.builtin "pow")⟩, ⟨(PyData.keyHash P (sT "print")), (.str (sT "print") 43), (.builtin "print")⟩, ⟨(PyData.keyHash P (sT "repr")), (.str (sT "repr") 44), (.builtin "repr")⟩, ⟨(PyData.keyHash P (sT "round")), (.str (sT "round") 45), (.builtin "round")⟩, ⟨(PyData.keyHash P (sT "setattr")), (.str (sT "setattr") 46), (.builtin "setattr")⟩, ⟨(PyData.keyHash P (sT "sorted")), (.str (sT "sorted") 47), (.builtin "sorted")⟩, ⟨(PyData.keyHash P (sT "sum")), (.str (sT "sum") 48), (.builtin "sum")⟩, ⟨(PyData.keyHash P (sT "vars")), (.str (sT "vars") 49), (.builtin "vars")⟩, ⟨(PyData.keyHash P (sT "None")), (.str (sT "None") 50), .none⟩, ⟨(PyData.keyHash P (sT "Ellipsis")), (.str (sT "Ellipsis") 51), .ellipsis⟩, ⟨(PyData.keyHash P (sT "NotImplemented")), (.str (sT "NotImplemented") 52), .notImplemented⟩, ⟨(PyData.keyHash P (sT "False")), (.str (sT "False") 53), (.bool false)⟩, ⟨(PyData.keyHash P (sT "True")), (.str (sT "True") 54), (.bool true)⟩, ⟨(PyData.keyHash P (sT "bool")), (.str (sT "bool") 55), (.type "bool")⟩, ⟨(PyData.keyHash P (sT "memoryview")), (.str (sT "memoryview") 56), (.type "memoryview")⟩, ⟨(PyData.keyHash P (sT "bytearray")), (.str (sT "bytearray") 57), (.type "bytearray")⟩, ⟨(PyData.keyHash P (sT "bytes")), (.str (sT "bytes") 58), (.type "bytes")⟩, ⟨(PyData.keyHash P (sT "classmethod")), (.str (sT "classmethod") 59), (.type "classmethod")⟩, ⟨(PyData.keyHash P (sT "complex")), (.str (sT "complex") 60), (.type "complex")⟩, ⟨(PyData.keyHash P (sT "dict")), (.str (sT "dict") 61), (.type "dict")⟩, ⟨(PyData.keyHash P (sT "enumerate")), (.str (sT "enumerate") 62), (.type "enumerate")⟩, ⟨(PyData.keyHash P (sT "filter")), (.str (sT "filter") 63), (.type "filter")⟩, ⟨(PyData.keyHash P (sT "float")), (.str (sT "float") 64), (.type "float")⟩, ⟨(PyData.keyHash P (sT "frozenset")), (.str (sT "frozenset") 65), (.type "frozenset")⟩, ⟨(PyData.keyHash P (sT "property")), (.str (sT "property") 66), (.type "property")⟩, ⟨(PyData.keyHash P (sT "int")), (.str (sT "int") 67), (.type "int")⟩, ⟨(PyData.keyHash P (sT "list")), (.str (sT "list") 68), (.type "list")⟩, ⟨(PyData.keyHash P (sT "map")), (.str (sT "map") 69), (.type "map")⟩, ⟨(PyData.keyHash P (sT "object")), (.str (sT "object") 70), (.type "object")⟩, ⟨(PyData.keyHash P (sT "range")), (.str (sT "range") 71), (.type "range")⟩, ⟨(PyData.keyHash P (sT "reversed")), (.str (sT "reversed") 72), (.type "reversed")⟩, ⟨(PyData.keyHash P (sT "set")), (.str (sT "set") 73), (.type "set")⟩, ⟨(PyData.keyHash P (sT "slice")), (.str (sT "slice") 74), (.type "slice")⟩, ⟨(PyData.keyHash P (sT "staticmethod")), (.str (sT "staticmethod") 75), (.type "staticmethod")⟩, ⟨(PyData.keyHash P (sT "str")), (.str (sT "str") 76), (.type "str")⟩, ⟨(PyData.keyHash P (sT "super")), (.str (sT "super") 77), (.type "super")⟩, ⟨(PyData.keyHash P (sT "tuple")), (.str (sT "tuple") 78), (.type "tuple")⟩, ⟨(PyData.keyHash P (sT "type")), (.str (sT "type") 79), (.type "type")⟩, ⟨(PyData.keyHash P (sT "zip")), (.str (sT "zip") 80), (.type "zip")⟩, ⟨(PyData.keyHash P (sT "__debug__")), (.str (sT "__debug__") 81), (.bool true)⟩, ⟨(PyData.keyHash P (sT "BaseException")), (.str (sT "BaseException") 82), (.type "BaseException")⟩, ⟨(PyData.keyHash P (sT "BaseExceptionGroup")), (.str (sT "BaseExceptionGroup") 83), (.type "BaseExceptionGroup")⟩, ⟨(PyData.keyHash P (sT "Exception")), (.str (sT "Exception") 84), (.type "Exception")⟩, ⟨(PyData.keyHash P (sT "GeneratorExit")), (.str (sT "GeneratorExit") 85), (.type "GeneratorExit")⟩, ⟨(PyData.keyHash P (sT "KeyboardInterrupt")), (.str (sT "KeyboardInterrupt") 86), (.type "KeyboardInterrupt")⟩, ⟨(PyData.keyHash P (sT "SystemExit")), (.str (sT "SystemExit") 87), (.type "SystemExit")⟩, ⟨(PyData.keyHash P (sT "ArithmeticError")), (.str (sT "ArithmeticError") 88), (.type "ArithmeticError")⟩, ⟨(PyData.keyHash P (sT "AssertionError")), (.str (sT "AssertionError") 89), (.type "AssertionError")⟩, ⟨(PyData.keyHash P (sT "AttributeError")), (.str (sT "AttributeError") 90), (.type "AttributeError")⟩, ⟨(PyData.keyHash P (sT "BufferError")), (.str (sT "BufferError") 91), (.type "BufferError")⟩, ⟨(PyData.keyHash P (sT "EOFError")), (.str (sT "EOFError") 92), (.type "EOFError")⟩, ⟨(PyData.keyHash P (sT "ImportError")), (.str (sT "ImportError") 93), (.type "ImportError")⟩, ⟨(PyData.keyHash P (sT "LookupError")), (.str (sT "LookupError") 94), (.type "LookupError")⟩, ⟨(PyData.keyHash P (sT "MemoryError")), (.str (sT "MemoryError") 95), (.type "MemoryError")⟩, ⟨(PyData.keyHash P (sT "NameError")), (.str (sT "NameError") 96), (.type "NameError")⟩, ⟨(PyData.keyHash P (sT "OSError")), (.str (sT "OSError") 97), (.type "OSError")⟩, ⟨(PyData.keyHash P (sT "ReferenceError")), (.str (sT "ReferenceError") 98), (.type "ReferenceError")⟩, ⟨(PyData.keyHash P (sT "RuntimeError")), (.str (sT "RuntimeError") 99), (.type "RuntimeError")⟩, ⟨(PyData.keyHash P (sT "StopAsyncIteration")), (.str (sT "StopAsyncIteration") 100), (.type "StopAsyncIteration")⟩, ⟨(PyData.keyHash P (sT "StopIteration")), (.str (sT "StopIteration") 101), (.type "StopIteration")⟩, ⟨(PyData.keyHash P (sT "SyntaxError")), (.str (sT "SyntaxError") 102), (.type "SyntaxError")⟩, ⟨(PyData.keyHash P (sT "SystemError")), (.str (sT "SystemError") 103), (.type "SystemError")⟩, ⟨(PyData.keyHash P (sT "TypeError")), (.str (sT "TypeError") 104), (.type "TypeError")⟩, ⟨(PyData.keyHash P (sT "ValueError")), (.str (sT "ValueError") 105), (.type "ValueError")⟩, ⟨(PyData.keyHash P (sT "Warning")), (.str (sT "Warning") 106), (.type "Warning")⟩, ⟨(PyData.keyHash P (sT "FloatingPointError")), (.str (sT "FloatingPointError") 107), (.type "FloatingPointError")⟩, ⟨(PyData.keyHash P (sT "OverflowError")), (.str (sT "OverflowError") 108), (.type "OverflowError")⟩, ⟨(PyData.keyHash P (sT "ZeroDivisionError")), (.str (sT "ZeroDivisionError") 109), (.type "ZeroDivisionError")⟩, ⟨(PyData.keyHash P (sT "BytesWarning")), (.str (sT "BytesWarning") 110), (.type "BytesWarning")⟩, ⟨(PyData.keyHash P (sT "DeprecationWarning")), (.str (sT "DeprecationWarning") 111), (.type "DeprecationWarning")⟩, ⟨(PyData.keyHash P (sT "EncodingWarning")), (.str (sT "EncodingWarning") 112), (.type "EncodingWarning")⟩, ⟨(PyData.keyHash P (sT "FutureWarning")), (.str (sT "FutureWarning") 113), (.type "FutureWarning")⟩, ⟨(PyData.keyHash P (sT "ImportWarning")), (.str (sT "ImportWarning") 114), (.type "ImportWarning")⟩, ⟨(PyData.keyHash P (sT "PendingDeprecationWarning")), (.str (sT "PendingDeprecationWarning") 115), (.type "PendingDeprecationWarning")⟩, ⟨(PyData.keyHash P (sT "ResourceWarning")), (.str (sT "ResourceWarning") 116), (.type "ResourceWarning")⟩, ⟨(PyData.keyHash P (sT "RuntimeWarning")), (.str (sT "RuntimeWarning") 117), (.type "RuntimeWarning")⟩, ⟨(PyData.keyHash P (sT "SyntaxWarning")), (.str (sT "SyntaxWarning") 118), (.type "SyntaxWarning")⟩, ⟨(PyData.keyHash P (sT "UnicodeWarning")), (.str (sT "UnicodeWarning") 119), (.type "UnicodeWarning")⟩, ⟨(PyData.keyHash P (sT "UserWarning")), (.str (sT "UserWarning") 120), (.type "UserWarning")⟩, ⟨(PyData.keyHash P (sT "BlockingIOError")), (.str (sT "BlockingIOError") 121), (.type "BlockingIOError")⟩, ⟨(PyData.keyHash P (sT "ChildProcessError")), (.str (sT "ChildProcessError") 122), (.type "ChildProcessError")⟩, ⟨(PyData.keyHash P (sT "ConnectionError")), (.str (sT "ConnectionError") 123), (.type "ConnectionError")⟩, ⟨(PyData.keyHash P (sT "FileExistsError")), (.str (sT "FileExistsError") 124), (.type "FileExistsError")⟩, ⟨(PyData.keyHash P (sT "FileNotFoundError")), (.str (sT "FileNotFoundError") 125), (.type "FileNotFoundError")⟩, ⟨(PyData.keyHash P (sT "InterruptedError")), (.str (sT "InterruptedError") 126), (.type "InterruptedError")⟩, ⟨(PyData.keyHash P (sT "IsADirectoryError")), (.str (sT "IsADirectoryError") 127), (.type "IsADirectoryError")⟩, ⟨(PyData.keyHash P (sT "NotADirectoryError")), (.str (sT "NotADirectoryError") 128), (.type "NotADirectoryError")⟩, ⟨(PyData.keyHash P (sT "PermissionError")), (.str (sT "PermissionError") 129), (.type "PermissionError")⟩, ⟨(PyData.keyHash P (sT "ProcessLookupError")), (.str (sT "ProcessLookupError") 130), (.type "ProcessLookupError")⟩, ⟨(PyData.keyHash P (sT "TimeoutError")), (.str (sT "TimeoutError") 131), (.type "TimeoutError")⟩, ⟨(PyData.keyHash P (sT "IndentationError")), (.str (sT "IndentationError") 132), (.type "IndentationError")⟩, ⟨(PyData.keyHash P (sT "_IncompleteInputError")), (.str (sT "_IncompleteInputError") 133), (.type "_IncompleteInputError")⟩, ⟨(PyData.keyHash P (sT "IndexError")), (.str (sT "IndexError") 134), (.type "IndexError")⟩, ⟨(PyData.keyHash P (sT "KeyError")), (.str (sT "KeyError") 135), (.type "KeyError")⟩, ⟨(PyData.keyHash P (sT "ModuleNotFoundError")), (.str (sT "ModuleNotFoundError") 136), (.type "ModuleNotFoundError")⟩, ⟨(PyData.keyHash P (sT "NotImplementedError")), (.str (sT "NotImplementedError") 137), (.type "NotImplementedError")⟩, ⟨(PyData.keyHash P (sT "PythonFinalizationError")), (.str (sT "PythonFinalizationError") 138), (.type "PythonFinalizationError")⟩, ⟨(PyData.keyHash P (sT "RecursionError")), (.str (sT "RecursionError") 139), (.type "RecursionError")⟩, ⟨(PyData.keyHash P (sT "UnboundLocalError")), (.str (sT "UnboundLocalError") 140), (.type "UnboundLocalError")⟩, ⟨(PyData.keyHash P (sT "UnicodeError")), (.str (sT "UnicodeError") 141), (.type "UnicodeError")⟩, ⟨(PyData.keyHash P (sT "BrokenPipeError")), (.str (sT "BrokenPipeError") 142), (.type "BrokenPipeError")⟩, ⟨(PyData.keyHash P (sT "ConnectionAbortedError")), (.str (sT "ConnectionAbortedError") 143), (.type "ConnectionAbortedError")⟩, ⟨(PyData.keyHash P (sT "ConnectionRefusedError")), (.str (sT "ConnectionRefusedError") 144), (.type "ConnectionRefusedError")⟩, ⟨(PyData.keyHash P (sT "ConnectionResetError")), (.str (sT "ConnectionResetError") 145), (.type "ConnectionResetError")⟩, ⟨(PyData.keyHash P (sT "TabError")), (.str (sT "TabError") 146), (.type "TabError")⟩, ⟨(PyData.keyHash P (sT "UnicodeDecodeError")), (.str (sT "UnicodeDecodeError") 147), (.type "UnicodeDecodeError")⟩, ⟨(PyData.keyHash P (sT "UnicodeEncodeError")), (.str (sT "UnicodeEncodeError") 148), (.type "UnicodeEncodeError")⟩, ⟨(PyData.keyHash P (sT "UnicodeTranslateError")), (.str (sT "UnicodeTranslateError") 149), (.type "UnicodeTranslateError")⟩, ⟨(PyData.keyHash P (sT "ExceptionGroup")), (.str (sT "ExceptionGroup") 150), (.type "ExceptionGroup")⟩, ⟨(PyData.keyHash P (sT "EnvironmentError")), (.str (sT "EnvironmentError") 151), (.type "OSError")⟩, ⟨(PyData.keyHash P (sT "IOError")), (.str (sT "IOError") 152), (.type "OSError")⟩, ⟨(PyData.keyHash P (sT "open")), (.str (sT "open") 153), (.builtin "open")⟩, ⟨(PyData.keyHash P (sT "quit")), (.str (sT "quit") 154), (.builtin "builtins.quit#opaque")⟩, ⟨(PyData.keyHash P (sT "exit")), (.str (sT "exit") 155), (.builtin "builtins.exit#opaque")⟩, ⟨(PyData.keyHash P (sT "copyright")), (.str (sT "copyright") 156), (.builtin "builtins.copyright#opaque")⟩, ⟨(PyData.keyHash P (sT "credits")), (.str (sT "credits") 157), (.builtin "builtins.credits#opaque")⟩, ⟨(PyData.keyHash P (sT "license")), (.str (sT "license") 158), (.builtin "builtins.license#opaque")⟩, ⟨(PyData.keyHash P (sT "help")), (.str (sT "help") 159), (.builtin "builtins.help#opaque")⟩] 159), #[]⟩
noncomputable def o1Z (P : Params) : Obj := ⟨(.type "dict"), none, (.dict #[⟨(PyData.keyHash P (sT "builtins")), (.str (sT "builtins") 162), (.ref 4)⟩, ⟨(PyData.keyHash P (sT "__main__")), (.str (sT "__main__") 163), (.ref 5)⟩, ⟨(PyData.keyHash P (sT "_sre")), (.str (sT "_sre") 244), (.ref 12)⟩] 3), #[]⟩
noncomputable def o2Z (P : Params) : Obj := ⟨.none, none, (.dict #[⟨(PyData.keyHash P (⟨#[105, 109, 112, 111, 114, 116, 46, 108, 111, 97, 100, 101, 100, 46, 95, 115, 114, 101]⟩ : Str)), (.str (⟨#[105, 109, 112, 111, 114, 116, 46, 108, 111, 97, 100, 101, 100, 46, 95, 115, 114, 101]⟩ : Str) 183), (.bool true)⟩, ⟨(PyData.keyHash P (sT "class._frozen_importlib.BuiltinImporter")), (.str (sT "class._frozen_importlib.BuiltinImporter") 185), (.ref 14)⟩, ⟨(PyData.keyHash P (⟨#[119, 97, 116, 99, 104, 101, 100, 46, 105, 109, 112, 111, 114, 116]⟩ : Str)), (.str (⟨#[119, 97, 116, 99, 104, 101, 100, 46, 105, 109, 112, 111, 114, 116]⟩ : Str) 206), (.ref 18)⟩, ⟨(PyData.keyHash P (sT "class._frozen_importlib.ModuleSpec")), (.str (sT "class._frozen_importlib.ModuleSpec") 216), (.ref 22)⟩, ⟨(PyData.keyHash P (sT "sys.modules.booked-epoch")), (.str (sT "sys.modules.booked-epoch") 245), (.int 3 0)⟩, ⟨(PyData.keyHash P (⟨#[105, 109, 112, 111, 114, 116, 46, 108, 97, 116, 101, 114, 45, 108, 97, 105, 100, 46, 95, 115, 114, 101]⟩ : Str)), (.str (⟨#[105, 109, 112, 111, 114, 116, 46, 108, 97, 116, 101, 114, 45, 108, 97, 105, 100, 46, 95, 115, 114, 101]⟩ : Str) 270), (.bool true)⟩, ⟨(PyData.keyHash P (sT "watched.library")), (.str (sT "watched.library") 272), (.ref 27)⟩, ⟨(PyData.keyHash P (sT "watched.library-objects")), (.str (sT "watched.library-objects") 0), (.str (⟨#[12]⟩ : Str) 0)⟩, ⟨(PyData.keyHash P (sT "watched.library-deep._sre")), (.str (sT "watched.library-deep._sre") 273), (.str (⟨#[4, 0, 0, 11, 4, 0, 0, 11, 4, 0, 0, 3, 4, 0, 0, 11, 8, 4, 100, 105, 99, 116, 2]⟩ : Str) 0)⟩] 9), #[]⟩
noncomputable def o3Z (P : Params) : Obj := ⟨(.type "dict"), none, (.dict #[⟨(PyData.keyHash P (sT "__name__")), (.str (sT "__name__") 165), (.str (sT "__main__") 164)⟩, ⟨(PyData.keyHash P (sT "__doc__")), (.str (sT "__doc__") 166), .none⟩, ⟨(PyData.keyHash P (sT "__package__")), (.str (sT "__package__") 167), .none⟩, ⟨(PyData.keyHash P (sT "__loader__")), (.str (sT "__loader__") 168), (.builtin "__main__.__loader__#opaque")⟩, ⟨(PyData.keyHash P (sT "__spec__")), (.str (sT "__spec__") 169), .none⟩, ⟨(PyData.keyHash P (sT "__annotations__")), (.str (sT "__annotations__") 170), (.ref 6)⟩, ⟨(PyData.keyHash P (sT "__builtins__")), (.str (sT "__builtins__") 171), (.ref 4)⟩, ⟨(PyData.keyHash P (sT "__file__")), (.str (sT "__file__") 173), (.str (sT "/claim/cut.py") 172)⟩, ⟨(PyData.keyHash P (sT "__cached__")), (.str (sT "__cached__") 174), .none⟩, ⟨(PyData.keyHash P (sT "_sre")), (.str (sT "_sre") 275), (.ref 12)⟩] 10), #[]⟩
noncomputable def o4Z (P : Params) : Obj := ⟨(.type "module"), (some 0), .plain, #[]⟩
noncomputable def o5Z (P : Params) : Obj := ⟨(.type "module"), (some 3), .plain, #[]⟩
noncomputable def o6Z (P : Params) : Obj := ⟨(.type "dict"), none, (.dict #[] 0), #[]⟩
noncomputable def o7Z (P : Params) : Obj := ⟨(.type "tuple"), none, (.seq #[] 0), #[]⟩
noncomputable def o8Z (P : Params) : Obj := ⟨.none, none, (.fields #[]), #[]⟩
noncomputable def o9Z (P : Params) : Obj := ⟨(.type "code"), none, (.fields #[(.str (sT "<module>") 176), (.str (sT "<module>") 177), (.str (sT "/claim/cut.py") 178), (.int 1 0), (.int 0 0), (.int 0 0), (.int 0 0), (.int 0 0), (.ref 7), (.bool false), (.int 175 0), (.ref 8), .none, .none, .none, .none, (.int 179 0), (.int 1 0), (.str (sT "/claim/cut.py") 180)]), #[]⟩
noncomputable def o10Z (P : Params) : Obj := ⟨(.type "frame"), none, .plain, #[(some (.ref 9)), (some (.ref 3)), (some (.ref 3)), none, (some (.str (sT "__main__") 164)), none, (some (.ref 0))]⟩
noncomputable def o11Z (P : Params) : Obj := ⟨(.type "dict"), none, (.dict #[⟨(PyData.keyHash P (sT "__name__")), (.str (sT "__name__") 247), (.str (sT "_sre") 246)⟩, ⟨(PyData.keyHash P (sT "__doc__")), (.str (sT "__doc__") 248), .none⟩, ⟨(PyData.keyHash P (sT "__package__")), (.str (sT "__package__") 250), (.str (sT "") 249)⟩, ⟨(PyData.keyHash P (sT "__loader__")), (.str (sT "__loader__") 251), (.builtin "off-the-table:_sre.__loader__:shared#opaque")⟩, ⟨(PyData.keyHash P (sT "__spec__")), (.str (sT "__spec__") 252), (.builtin "off-the-table:_sre.__spec__:shared#opaque")⟩, ⟨(PyData.keyHash P (sT "compile")), (.str (sT "compile") 253), (.builtin "_sre.compile")⟩, ⟨(PyData.keyHash P (sT "template")), (.str (sT "template") 254), (.builtin "off-the-table:_sre.template:shared#opaque")⟩, ⟨(PyData.keyHash P (sT "getcodesize")), (.str (sT "getcodesize") 255), (.builtin "off-the-table:_sre.getcodesize:shared#opaque")⟩, ⟨(PyData.keyHash P (sT "ascii_iscased")), (.str (sT "ascii_iscased") 256), (.builtin "off-the-table:_sre.ascii_iscased:shared#opaque")⟩, ⟨(PyData.keyHash P (sT "unicode_iscased")), (.str (sT "unicode_iscased") 257), (.builtin "off-the-table:_sre.unicode_iscased:shared#opaque")⟩, ⟨(PyData.keyHash P (sT "ascii_tolower")), (.str (sT "ascii_tolower") 258), (.builtin "off-the-table:_sre.ascii_tolower:shared#opaque")⟩, ⟨(PyData.keyHash P (sT "unicode_tolower")), (.str (sT "unicode_tolower") 259), (.builtin "off-the-table:_sre.unicode_tolower:shared#opaque")⟩, ⟨(PyData.keyHash P (sT "MAGIC")), (.str (sT "MAGIC") 261), (.int 20230612 260)⟩, ⟨(PyData.keyHash P (sT "CODESIZE")), (.str (sT "CODESIZE") 263), (.int 4 262)⟩, ⟨(PyData.keyHash P (sT "MAXREPEAT")), (.str (sT "MAXREPEAT") 265), (.int 4294967295 264)⟩, ⟨(PyData.keyHash P (sT "MAXGROUPS")), (.str (sT "MAXGROUPS") 267), (.int 1073741823 266)⟩, ⟨(PyData.keyHash P (sT "copyright")), (.str (sT "copyright") 269), (.str (sT " SRE 2.2.2 Copyright (c) 1997-2002 by Secret Labs AB ") 268)⟩] 17), #[]⟩
noncomputable def o12Z (P : Params) : Obj := ⟨(.type "module"), (some 11), .plain, #[]⟩
noncomputable def o13Z (P : Params) : Obj := ⟨(.type "dict"), none, (.dict #[⟨(PyData.keyHash P (sT "__module__")), (.str (sT "__module__") 189), (.str (sT "_frozen_importlib") 186)⟩, ⟨(PyData.keyHash P (sT "__firstlineno__")), (.str (sT "__firstlineno__") 190), (.int 971 187)⟩, ⟨(PyData.keyHash P (sT "__doc__")), (.str (sT "__doc__") 191), (.builtin "_frozen_importlib.BuiltinImporter.__doc__:str#opaque")⟩, ⟨(PyData.keyHash P (sT "_ORIGIN")), (.str (sT "_ORIGIN") 192), (.str (sT "built-in") 188)⟩, ⟨(PyData.keyHash P (sT "find_spec")), (.str (sT "find_spec") 193), (.builtin "_frozen_importlib.BuiltinImporter.find_spec#opaque")⟩, ⟨(PyData.keyHash P (sT "create_module")), (.str (sT "create_module") 194), (.builtin "_frozen_importlib.BuiltinImporter.create_module#opaque")⟩, ⟨(PyData.keyHash P (sT "exec_module")), (.str (sT "exec_module") 195), (.builtin "_frozen_importlib.BuiltinImporter.exec_module#opaque")⟩, ⟨(PyData.keyHash P (sT "get_code")), (.str (sT "get_code") 196), (.builtin "_frozen_importlib.BuiltinImporter.get_code#opaque")⟩, ⟨(PyData.keyHash P (sT "get_source")), (.str (sT "get_source") 197), (.builtin "_frozen_importlib.BuiltinImporter.get_source#opaque")⟩, ⟨(PyData.keyHash P (sT "is_package")), (.str (sT "is_package") 198), (.builtin "_frozen_importlib.BuiltinImporter.is_package#opaque")⟩, ⟨(PyData.keyHash P (sT "load_module")), (.str (sT "load_module") 199), (.builtin "_frozen_importlib.BuiltinImporter.load_module#opaque")⟩, ⟨(PyData.keyHash P (sT "__static_attributes__")), (.str (sT "__static_attributes__") 200), (.ref 15)⟩, ⟨(PyData.keyHash P (sT "__dict__")), (.str (sT "__dict__") 202), (.ref 16)⟩, ⟨(PyData.keyHash P (sT "__weakref__")), (.str (sT "__weakref__") 204), (.ref 17)⟩] 14), #[]⟩
noncomputable def o14Z (P : Params) : Obj := ⟨(.type "type"), none, (.cls ⟨(sT "BuiltinImporter"), [(.type "object")], [(.ref 14), (.type "object")], 13, (sT "BuiltinImporter"), true, [], [], false, none, false⟩), #[]⟩
noncomputable def o15Z (P : Params) : Obj := ⟨(.type "tuple"), none, (.seq #[] 0), #[]⟩
noncomputable def o16Z (P : Params) : Obj := ⟨(.type "getset_descriptor"), none, (.fields #[(.str (sT "__dict__") 201), (.ref 14), (.builtin "function.__dict__"), (.builtin "function.__dict__#set")]), #[]⟩
noncomputable def o17Z (P : Params) : Obj := ⟨(.type "getset_descriptor"), none, (.fields #[(.str (sT "__weakref__") 203), (.ref 14), (.builtin "ExceptionGroup.__weakref__"), .none]), #[]⟩
noncomputable def o18Z (P : Params) : Obj := ⟨.none, none, (.seq #[(.int 13 0), (.str (⟨#[6, 189, 10, 95, 95, 109, 111, 100, 117, 108, 101, 95, 95, 6, 186, 17, 95, 102, 114, 111, 122, 101, 110, 95, 105, 109, 112, 111, 114, 116, 108, 105, 98, 6, 190, 15, 95, 95, 102, 105, 114, 115, 116, 108, 105, 110, 101, 110, 111, 95, 95, 4, 187, 0, 971, 6, 191, 7, 95, 95, 100, 111, 99, 95, 95, 9, 52, 95, 102, 114, 111, 122, 101, 110, 95, 105, 109, 112, 111, 114, 116, 108, 105, 98, 46, 66, 117, 105, 108, 116, 105, 110, 73, 109, 112, 111, 114, 116, 101, 114, 46, 95, 95, 100, 111, 99, 95, 95, 58, 115, 116, 114, 35, 111, 112, 97, 113, 117, 101, 6, 192, 7, 95, 79, 82, 73, 71, 73, 78, 6, 188, 8, 98, 117, 105, 108, 116, 45, 105, 110, 6, 193, 9, 102, 105, 110, 100, 95, 115, 112, 101, 99, 9, 50, 95, 102, 114, 111, 122, 101, 110, 95, 105, 109, 112, 111, 114, 116, 108, 105, 98, 46, 66, 117, 105, 108, 116, 105, 110, 73, 109, 112, 111, 114, 116, 101, 114, 46, 102, 105, 110, 100, 95, 115, 112, 101, 99, 35, 111, 112, 97, 113, 117, 101, 6, 194, 13, 99, 114, 101, 97, 116, 101, 95, 109, 111, 100, 117, 108, 101, 9, 54, 95, 102, 114, 111, 122, 101, 110, 95, 105, 109, 112, 111, 114, 116, 108, 105, 98, 46, 66, 117, 105, 108, 116, 105, 110, 73, 109, 112, 111, 114, 116, 101, 114, 46, 99, 114, 101, 97, 116, 101, 95, 109, 111, 100, 117, 108, 101, 35, 111, 112, 97, 113, 117, 101, 6, 195, 11, 101, 120, 101, 99, 95, 109, 111, 100, 117, 108, 101, 9, 52, 95, 102, 114, 111, 122, 101, 110, 95, 105, 109, 112, 111, 114, 116, 108, 105, 98, 46, 66, 117, 105, 108, 116, 105, 110, 73, 109, 112, 111, 114, 116, 101, 114, 46, 101, 120, 101, 99, 95, 109, 111, 100, 117, 108, 101, 35, 111, 112, 97, 113, 117, 101, 6, 196, 8, 103, 101, 116, 95, 99, 111, 100, 101, 9, 49, 95, 102, 114, 111, 122, 101, 110, 95, 105, 109, 112, 111, 114, 116, 108, 105, 98, 46, 66, 117, 105, 108, 116, 105, 110, 73, 109, 112, 111, 114, 116, 101, 114, 46, 103, 101, 116, 95, 99, 111, 100, 101, 35, 111, 112, 97, 113, 117, 101, 6, 197, 10, 103, 101, 116, 95, 115, 111, 117, 114, 99, 101, 9, 51, 95, 102, 114, 111, 122, 101, 110, 95, 105, 109, 112, 111, 114, 116, 108, 105, 98, 46, 66, 117, 105, 108, 116, 105, 110, 73, 109, 112, 111, 114, 116, 101, 114, 46, 103, 101, 116, 95, 115, 111, 117, 114, 99, 101, 35, 111, 112, 97, 113, 117, 101, 6, 198, 10, 105, 115, 95, 112, 97, 99, 107, 97, 103, 101, 9, 51, 95, 102, 114, 111, 122, 101, 110, 95, 105, 109, 112, 111, 114, 116, 108, 105, 98, 46, 66, 117, 105, 108, 116, 105, 110, 73, 109, 112, 111, 114, 116, 101, 114, 46, 105, 115, 95, 112, 97, 99, 107, 97, 103, 101, 35, 111, 112, 97, 113, 117, 101, 6, 199, 11, 108, 111, 97, 100, 95, 109, 111, 100, 117, 108, 101, 9, 52, 95, 102, 114, 111, 122, 101, 110, 95, 105, 109, 112, 111, 114, 116, 108, 105, 98, 46, 66, 117, 105, 108, 116, 105, 110, 73, 109, 112, 111, 114, 116, 101, 114, 46, 108, 111, 97, 100, 95, 109, 111, 100, 117, 108, 101, 35, 111, 112, 97, 113, 117, 101, 6, 200, 21, 95, 95, 115, 116, 97, 116, 105, 99, 95, 97, 116, 116, 114, 105, 98, 117, 116, 101, 115, 95, 95, 4, 0, 0, 15, 6, 202, 8, 95, 95, 100, 105, 99, 116, 95, 95, 4, 0, 0, 16, 6, 204, 11, 95, 95, 119, 101, 97, 107, 114, 101, 102, 95, 95, 4, 0, 0, 17]⟩ : Str) 0), (.bool true), (.bool true), (.str (sT "") 205), (.int 21 0), (.str (⟨#[6, 227, 10, 95, 95, 109, 111, 100, 117, 108, 101, 95, 95, 6, 217, 17, 95, 102, 114, 111, 122, 101, 110, 95, 105, 109, 112, 111, 114, 116, 108, 105, 98, 6, 228, 15, 95, 95, 102, 105, 114, 115, 116, 108, 105, 110, 101, 110, 111, 95, 95, 4, 218, 0, 562, 6, 229, 7, 95, 95, 100, 111, 99, 95, 95, 9, 47, 95, 102, 114, 111, 122, 101, 110, 95, 105, 109, 112, 111, 114, 116, 108, 105, 98, 46, 77, 111, 100, 117, 108, 101, 83, 112, 101, 99, 46, 95, 95, 100, 111, 99, 95, 95, 58, 115, 116, 114, 35, 111, 112, 97, 113, 117, 101, 6, 230, 8, 95, 95, 105, 110, 105, 116, 95, 95, 9, 44, 95, 102, 114, 111, 122, 101, 110, 95, 105, 109, 112, 111, 114, 116, 108, 105, 98, 46, 77, 111, 100, 117, 108, 101, 83, 112, 101, 99, 46, 95, 95, 105, 110, 105, 116, 95, 95, 35, 111, 112, 97, 113, 117, 101, 6, 231, 8, 95, 95, 114, 101, 112, 114, 95, 95, 9, 44, 95, 102, 114, 111, 122, 101, 110, 95, 105, 109, 112, 111, 114, 116, 108, 105, 98, 46, 77, 111, 100, 117, 108, 101, 83, 112, 101, 99, 46, 95, 95, 114, 101, 112, 114, 95, 95, 35, 111, 112, 97, 113, 117, 101, 6, 232, 6, 95, 95, 101, 113, 95, 95, 9, 42, 95, 102, 114, 111, 122, 101, 110, 95, 105, 109, 112, 111, 114, 116, 108, 105, 98, 46, 77, 111, 100, 117, 108, 101, 83, 112, 101, 99, 46, 95, 95, 101, 113, 95, 95, 35, 111, 112, 97, 113, 117, 101, 6, 233, 6, 99, 97, 99, 104, 101, 100, 9, 42, 95, 102, 114, 111, 122, 101, 110, 95, 105, 109, 112, 111, 114, 116, 108, 105, 98, 46, 77, 111, 100, 117, 108, 101, 83, 112, 101, 99, 46, 99, 97, 99, 104, 101, 100, 35, 111, 112, 97, 113, 117, 101, 6, 234, 6, 112, 97, 114, 101, 110, 116, 9, 42, 95, 102, 114, 111, 122, 101, 110, 95, 105, 109, 112, 111, 114, 116, 108, 105, 98, 46, 77, 111, 100, 117, 108, 101, 83, 112, 101, 99, 46, 112, 97, 114, 101, 110, 116, 35, 111, 112, 97, 113, 117, 101, 6, 235, 12, 104, 97, 115, 95, 108, 111, 99, 97, 116, 105, 111, 110, 9, 48, 95, 102, 114, 111, 122, 101, 110, 95, 105, 109, 112, 111, 114, 116, 108, 105, 98, 46, 77, 111, 100, 117, 108, 101, 83, 112, 101, 99, 46, 104, 97, 115, 95, 108, 111, 99, 97, 116, 105, 111, 110, 35, 111, 112, 97, 113, 117, 101, 6, 236, 21, 95, 95, 115, 116, 97, 116, 105, 99, 95, 97, 116, 116, 114, 105, 98, 117, 116, 101, 115, 95, 95, 4, 0, 0, 23, 6, 238, 8, 95, 95, 100, 105, 99, 116, 95, 95, 4, 0, 0, 24, 6, 240, 11, 95, 95, 119, 101, 97, 107, 114, 101, 102, 95, 95, 4, 0, 0, 25, 6, 241, 8, 95, 95, 104, 97, 115, 104, 95, 95, 0]⟩ : Str) 0), (.bool true), (.bool true), (.str (sT "") 242)] 1), #[]⟩
noncomputable def o19Z (P : Params) : Obj := ⟨(.type "list"), none, (.seq #[] 0), #[]⟩
noncomputable def o20Z (P : Params) : Obj := ⟨(.type "dict"), none, (.dict #[⟨(PyData.keyHash P (sT "name")), (.str (sT "name") 208), (.str (sT "_sre") 207)⟩, ⟨(PyData.keyHash P (sT "loader")), (.str (sT "loader") 209), (.ref 14)⟩, ⟨(PyData.keyHash P (sT "origin")), (.str (sT "origin") 210), (.str (sT "built-in") 184)⟩, ⟨(PyData.keyHash P (sT "loader_state")), (.str (sT "loader_state") 211), .none⟩, ⟨(PyData.keyHash P (sT "submodule_search_locations")), (.str (sT "submodule_search_locations") 212), .none⟩, ⟨(PyData.keyHash P (sT "_uninitialized_submodules")), (.str (sT "_uninitialized_submodules") 213), (.ref 19)⟩, ⟨(PyData.keyHash P (sT "_set_fileattr")), (.str (sT "_set_fileattr") 214), (.bool false)⟩, ⟨(PyData.keyHash P (sT "_cached")), (.str (sT "_cached") 215), .none⟩, ⟨(PyData.keyHash P (sT "_initializing")), (.str (sT "_initializing") 243), (.bool false)⟩] 9), #[]⟩
noncomputable def o21Z (P : Params) : Obj := ⟨(.type "dict"), none, (.dict #[⟨(PyData.keyHash P (sT "__module__")), (.str (sT "__module__") 227), (.str (sT "_frozen_importlib") 217)⟩, ⟨(PyData.keyHash P (sT "__firstlineno__")), (.str (sT "__firstlineno__") 228), (.int 562 218)⟩, ⟨(PyData.keyHash P (sT "__doc__")), (.str (sT "__doc__") 229), (.builtin "_frozen_importlib.ModuleSpec.__doc__:str#opaque")⟩, ⟨(PyData.keyHash P (sT "__init__")), (.str (sT "__init__") 230), (.builtin "_frozen_importlib.ModuleSpec.__init__#opaque")⟩, ⟨(PyData.keyHash P (sT "__repr__")), (.str (sT "__repr__") 231), (.builtin "_frozen_importlib.ModuleSpec.__repr__#opaque")⟩, ⟨(PyData.keyHash P (sT "__eq__")), (.str (sT "__eq__") 232), (.builtin "_frozen_importlib.ModuleSpec.__eq__#opaque")⟩, ⟨(PyData.keyHash P (sT "cached")), (.str (sT "cached") 233), (.builtin "_frozen_importlib.ModuleSpec.cached#opaque")⟩, ⟨(PyData.keyHash P (sT "parent")), (.str (sT "parent") 234), (.builtin "_frozen_importlib.ModuleSpec.parent#opaque")⟩, ⟨(PyData.keyHash P (sT "has_location")), (.str (sT "has_location") 235), (.builtin "_frozen_importlib.ModuleSpec.has_location#opaque")⟩, ⟨(PyData.keyHash P (sT "__static_attributes__")), (.str (sT "__static_attributes__") 236), (.ref 23)⟩, ⟨(PyData.keyHash P (sT "__dict__")), (.str (sT "__dict__") 238), (.ref 24)⟩, ⟨(PyData.keyHash P (sT "__weakref__")), (.str (sT "__weakref__") 240), (.ref 25)⟩, ⟨(PyData.keyHash P (sT "__hash__")), (.str (sT "__hash__") 241), .none⟩] 13), #[]⟩
noncomputable def o22Z (P : Params) : Obj := ⟨(.type "type"), none, (.cls ⟨(sT "ModuleSpec"), [(.type "object")], [(.ref 22), (.type "object")], 21, (sT "ModuleSpec"), true, [], [], false, none, false⟩), #[]⟩
noncomputable def o23Z (P : Params) : Obj := ⟨(.type "tuple"), none, (.seq #[(.str (sT "_cached") 219), (.str (sT "_set_fileattr") 220), (.str (sT "_uninitialized_submodules") 221), (.str (sT "loader") 222), (.str (sT "loader_state") 223), (.str (sT "name") 224), (.str (sT "origin") 225), (.str (sT "submodule_search_locations") 226)] 0), #[]⟩
noncomputable def o24Z (P : Params) : Obj := ⟨(.type "getset_descriptor"), none, (.fields #[(.str (sT "__dict__") 237), (.ref 22), (.builtin "function.__dict__"), (.builtin "function.__dict__#set")]), #[]⟩
noncomputable def o25Z (P : Params) : Obj := ⟨(.type "getset_descriptor"), none, (.fields #[(.str (sT "__weakref__") 239), (.ref 22), (.builtin "ExceptionGroup.__weakref__"), .none]), #[]⟩
noncomputable def o26Z (P : Params) : Obj := ⟨(.ref 22), (some 20), .plain, #[]⟩
noncomputable def o27Z (P : Params) : Obj := ⟨.none, none, (.seq #[(.int 11 0), (.str (⟨#[6, 247, 8, 95, 95, 110, 97, 109, 101, 95, 95, 6, 246, 4, 95, 115, 114, 101, 6, 248, 7, 95, 95, 100, 111, 99, 95, 95, 0, 6, 250, 11, 95, 95, 112, 97, 99, 107, 97, 103, 101, 95, 95, 6, 249, 0, 6, 251, 10, 95, 95, 108, 111, 97, 100, 101, 114, 95, 95, 4, 0, 0, 14, 6, 252, 8, 95, 95, 115, 112, 101, 99, 95, 95, 4, 0, 0, 26, 6, 253, 7, 99, 111, 109, 112, 105, 108, 101, 9, 12, 95, 115, 114, 101, 46, 99, 111, 109, 112, 105, 108, 101, 6, 254, 8, 116, 101, 109, 112, 108, 97, 116, 101, 9, 13, 95, 115, 114, 101, 46, 116, 101, 109, 112, 108, 97, 116, 101, 6, 255, 11, 103, 101, 116, 99, 111, 100, 101, 115, 105, 122, 101, 9, 16, 95, 115, 114, 101, 46, 103, 101, 116, 99, 111, 100, 101, 115, 105, 122, 101, 6, 256, 13, 97, 115, 99, 105, 105, 95, 105, 115, 99, 97, 115, 101, 100, 9, 18, 95, 115, 114, 101, 46, 97, 115, 99, 105, 105, 95, 105, 115, 99, 97, 115, 101, 100, 6, 257, 15, 117, 110, 105, 99, 111, 100, 101, 95, 105, 115, 99, 97, 115, 101, 100, 9, 20, 95, 115, 114, 101, 46, 117, 110, 105, 99, 111, 100, 101, 95, 105, 115, 99, 97, 115, 101, 100, 6, 258, 13, 97, 115, 99, 105, 105, 95, 116, 111, 108, 111, 119, 101, 114, 9, 18, 95, 115, 114, 101, 46, 97, 115, 99, 105, 105, 95, 116, 111, 108, 111, 119, 101, 114, 6, 259, 15, 117, 110, 105, 99, 111, 100, 101, 95, 116, 111, 108, 111, 119, 101, 114, 9, 20, 95, 115, 114, 101, 46, 117, 110, 105, 99, 111, 100, 101, 95, 116, 111, 108, 111, 119, 101, 114, 6, 261, 5, 77, 65, 71, 73, 67, 4, 260, 0, 20230612, 6, 263, 8, 67, 79, 68, 69, 83, 73, 90, 69, 4, 262, 0, 4, 6, 265, 9, 77, 65, 88, 82, 69, 80, 69, 65, 84, 4, 264, 0, 4294967295, 6, 267, 9, 77, 65, 88, 71, 82, 79, 85, 80, 83, 4, 266, 0, 1073741823, 6, 269, 9, 99, 111, 112, 121, 114, 105, 103, 104, 116, 6, 268, 53, 32, 83, 82, 69, 32, 50, 46, 50, 46, 50, 32, 67, 111, 112, 121, 114, 105, 103, 104, 116, 32, 40, 99, 41, 32, 49, 57, 57, 55, 45, 50, 48, 48, 50, 32, 98, 121, 32, 83, 101, 99, 114, 101, 116, 32, 76, 97, 98, 115, 32, 65, 66, 32]⟩ : Str) 0), (.bool true), (.bool false), (.str (sT "_sre") 271)] 0), #[]⟩
noncomputable def tZ (P : Params) : BT := (.node (o0Z P) (.node (o1Z P) (.node (o3Z P) (.node (o7Z P) (.node (o15Z P) .nil .nil) (.node (o23Z P) .nil .nil)) (.node (o11Z P) (.node (o19Z P) .nil .nil) (.node (o27Z P) .nil .nil))) (.node (o5Z P) (.node (o9Z P) (.node (o17Z P) .nil .nil) (.node (o25Z P) .nil .nil)) (.node (o13Z P) (.node (o21Z P) .nil .nil) .nil))) (.node (o2Z P) (.node (o4Z P) (.node (o8Z P) (.node (o16Z P) .nil .nil) (.node (o24Z P) .nil .nil)) (.node (o12Z P) (.node (o20Z P) .nil .nil) .nil)) (.node (o6Z P) (.node (o10Z P) (.node (o18Z P) .nil .nil) (.node (o26Z P) .nil .nil)) (.node (o14Z P) (.node (o22Z P) .nil .nil) .nil))))
noncomputable def o28Q (P : Params) : Obj := ⟨(.type "tuple"), none, (.seq #[] 0), #[]⟩
noncomputable def o29Q (P : Params) : Obj := ⟨.none, none, (.fields #[]), #[]⟩
noncomputable def o30Q (P : Params) : Obj := ⟨(.type "code"), none, (.fields #[(.str (sT "<module>") 277), (.str (sT "<module>") 278), (.str (sT "/claim/cut.py") 279), (.int 1 0), (.int 0 0), (.int 0 0), (.int 0 0), (.int 0 0), (.ref 28), (.bool false), (.int 276 0), (.ref 29), .none, .none, .none, .none, (.int 280 0), (.int 1 0), (.str (sT "/claim/cut.py") 281)]), #[]⟩
noncomputable def tQ (P : Params) : BT := (.node (o0Z P) (.node (o1Z P) (.node (o3Z P) (.node (o7Z P) (.node (o15Z P) .nil .nil) (.node (o23Z P) .nil .nil)) (.node (o11Z P) (.node (o19Z P) .nil .nil) (.node (o27Z P) .nil .nil))) (.node (o5Z P) (.node (o9Z P) (.node (o17Z P) .nil .nil) (.node (o25Z P) .nil .nil)) (.node (o13Z P) (.node (o21Z P) .nil .nil) (.node (o29Q P) .nil .nil)))) (.node (o2Z P) (.node (o4Z P) (.node (o8Z P) (.node (o16Z P) .nil .nil) (.node (o24Z P) .nil .nil)) (.node (o12Z P) (.node (o20Z P) .nil .nil) (.node (o28Q P) .nil .nil))) (.node (o6Z P) (.node (o10Z P) (.node (o18Z P) .nil .nil) (.node (o26Z P) .nil .nil)) (.node (o14Z P) (.node (o22Z P) .nil .nil) (.node (o30Q P) .nil .nil)))))
noncomputable def o31P (P : Params) : Obj := ⟨(.type "frame"), none, .plain, #[(some (.ref 30)), (some (.ref 3)), (some (.ref 3)), none, (some (.str (sT "__main__") 164)), none, (some (.ref 0))]⟩
noncomputable def tP (P : Params) : BT := (.node (o0Z P) (.node (o1Z P) (.node (o3Z P) (.node (o7Z P) (.node (o15Z P) (.node (o31P P) .nil .nil) .nil) (.node (o23Z P) .nil .nil)) (.node (o11Z P) (.node (o19Z P) .nil .nil) (.node (o27Z P) .nil .nil))) (.node (o5Z P) (.node (o9Z P) (.node (o17Z P) .nil .nil) (.node (o25Z P) .nil .nil)) (.node (o13Z P) (.node (o21Z P) .nil .nil) (.node (o29Q P) .nil .nil)))) (.node (o2Z P) (.node (o4Z P) (.node (o8Z P) (.node (o16Z P) .nil .nil) (.node (o24Z P) .nil .nil)) (.node (o12Z P) (.node (o20Z P) .nil .nil) (.node (o28Q P) .nil .nil))) (.node (o6Z P) (.node (o10Z P) (.node (o18Z P) .nil .nil) (.node (o26Z P) .nil .nil)) (.node (o14Z P) (.node (o22Z P) .nil .nil) (.node (o30Q P) .nil .nil)))))
noncomputable def o3A (P : Params) : Obj := ⟨(.type "dict"), none, (.dict #[⟨(PyData.keyHash P (sT "__name__")), (.str (sT "__name__") 165), (.str (sT "cpy313.stringprep") 387)⟩, ⟨(PyData.keyHash P (sT "__doc__")), (.str (sT "__doc__") 166), .none⟩, ⟨(PyData.keyHash P (sT "__package__")), (.str (sT "__package__") 167), .none⟩, ⟨(PyData.keyHash P (sT "__loader__")), (.str (sT "__loader__") 168), (.builtin "__main__.__loader__#opaque")⟩, ⟨(PyData.keyHash P (sT "__spec__")), (.str (sT "__spec__") 169), .none⟩, ⟨(PyData.keyHash P (sT "__annotations__")), (.str (sT "__annotations__") 170), (.ref 6)⟩, ⟨(PyData.keyHash P (sT "__builtins__")), (.str (sT "__builtins__") 171), (.ref 4)⟩, ⟨(PyData.keyHash P (sT "__file__")), (.str (sT "__file__") 173), (.str (sT "/claim/cut.py") 172)⟩, ⟨(PyData.keyHash P (sT "__cached__")), (.str (sT "__cached__") 174), .none⟩, ⟨(PyData.keyHash P (sT "_sre")), (.str (sT "_sre") 275), (.ref 12)⟩, ⟨(PyData.keyHash P (sT "_MAX_STRING_SIZE")), (.str (sT "_MAX_STRING_SIZE") 285), (.int 40 284)⟩, ⟨(PyData.keyHash P (sT "_MOVE_COST")), (.str (sT "_MOVE_COST") 287), (.int 2 286)⟩, ⟨(PyData.keyHash P (sT "_CASE_COST")), (.str (sT "_CASE_COST") 289), (.int 1 288)⟩, ⟨(PyData.keyHash P (sT "_substitution_cost")), (.str (sT "_substitution_cost") 297), (.ref 38)⟩, ⟨(PyData.keyHash P (sT "_levenshtein_distance")), (.str (sT "_levenshtein_distance") 317), (.ref 45)⟩, ⟨(PyData.keyHash P (sT "_twin_re_1")), (.str (sT "_twin_re_1") 335), (.ref 50)⟩, ⟨(PyData.keyHash P (sT "_twin_re_2")), (.str (sT "_twin_re_2") 377), (.ref 55)⟩, ⟨(PyData.keyHash P (sT "CRLF")), (.str (sT "CRLF") 379), (.str (⟨#[13, 10]⟩ : Str) 378)⟩, ⟨(PyData.keyHash P (sT "quotedata")), (.str (sT "quotedata") 386), (.ref 62)⟩] 19), #[]⟩
noncomputable def o29A (P : Params) : Obj := ⟨.none, none, (.fields #[(.int 6 0), (.int 0 0), (.ref 37), (.int 12 0), (.int 0 0), (.ref 44), (.int 54 0), (.int 0 0), (.ref 61)]), #[]⟩
noncomputable def o32A (P : Params) : Obj := ⟨(.type "tuple"), none, (.seq #[] 0), #[]⟩
noncomputable def o33A (P : Params) : Obj := ⟨.none, none, (.fields #[]), #[]⟩
noncomputable def o34A (P : Params) : Obj := ⟨(.type "tuple"), none, (.seq #[(.str (sT "ch_a") 293), (.str (sT "ch_b") 294)] 0), #[]⟩
noncomputable def o35A (P : Params) : Obj := ⟨(.type "tuple"), none, (.seq #[] 0), #[]⟩
noncomputable def o36A (P : Params) : Obj := ⟨.none, none, (.func ⟨(sT "_substitution_cost"), (sT "_substitution_cost"), fnP 5, .stmts (fnB 5), fnS 5, 0, [], .none, .none, .none, .none, none, .none, .none, 0⟩), #[]⟩
noncomputable def o37A (P : Params) : Obj := ⟨(.type "code"), none, (.fields #[(.str (sT "_substitution_cost") 290), (.str (sT "_substitution_cost") 291), (.str (sT "/claim/cut.py") 292), (.int 6 0), (.int 2 0), (.int 0 0), (.int 0 0), (.int 3 0), (.ref 32), (.bool true), (.int 276 0), (.ref 33), .none, (.ref 34), (.ref 35), (.ref 36), (.int 295 0), (.int 6 0), (.str (sT "/claim/cut.py") 296)]), #[]⟩
noncomputable def o38A (P : Params) : Obj := ⟨(.type "function"), none, (.func ⟨(sT "_substitution_cost"), (sT "_substitution_cost"), fnP 5, .stmts (fnB 5), fnS 5, 3, [], .none, .none, .none, (.str (sT "cpy313.traceback") 282), none, (.ref 37), .none, 0⟩), #[]⟩
noncomputable def o39A (P : Params) : Obj := ⟨(.type "tuple"), none, (.seq #[] 0), #[]⟩
noncomputable def o40A (P : Params) : Obj := ⟨.none, none, (.fields #[]), #[]⟩
noncomputable def o41A (P : Params) : Obj := ⟨(.type "tuple"), none, (.seq #[(.str (sT "a") 301), (.str (sT "b") 302), (.str (sT "max_cost") 303), (.str (sT "pre") 304), (.str (sT "post") 305), (.str (sT "row") 306), (.str (sT "result") 307), (.str (sT "bindex") 308), (.str (sT "bchar") 309), (.str (sT "distance") 310), (.str (sT "minimum") 311), (.str (sT "index") 312), (.str (sT "substitute") 313), (.str (sT "insert_delete") 314)] 0), #[]⟩
noncomputable def o42A (P : Params) : Obj := ⟨(.type "tuple"), none, (.seq #[] 0), #[]⟩
noncomputable def o43A (P : Params) : Obj := ⟨.none, none, (.func ⟨(sT "_levenshtein_distance"), (sT "_levenshtein_distance"), fnP 6, .stmts (fnB 6), fnS 6, 0, [], .none, .none, .none, .none, none, .none, .none, 0⟩), #[]⟩
noncomputable def o44A (P : Params) : Obj := ⟨(.type "code"), none, (.fields #[(.str (sT "_levenshtein_distance") 298), (.str (sT "_levenshtein_distance") 299), (.str (sT "/claim/cut.py") 300), (.int 12 0), (.int 3 0), (.int 0 0), (.int 0 0), (.int 3 0), (.ref 39), (.bool true), (.int 276 0), (.ref 40), .none, (.ref 41), (.ref 42), (.ref 43), (.int 315 0), (.int 12 0), (.str (sT "/claim/cut.py") 316)]), #[]⟩
noncomputable def o45A (P : Params) : Obj := ⟨(.type "function"), none, (.func ⟨(sT "_levenshtein_distance"), (sT "_levenshtein_distance"), fnP 6, .stmts (fnB 6), fnS 6, 3, [], .none, .none, .none, (.str (sT "cpy313.traceback") 282), none, (.ref 44), .none, 0⟩), #[]⟩
noncomputable def o46A (P : Params) : Obj := ⟨(.type "list"), none, (.seq #[(.int 14 323), (.int 4 324), (.int 0 325), (.int 1 326), (.int 1 327), (.int 6 328), (.int 1 329), (.int 16 330), (.int 46 331), (.int 1 332)] 0), #[]⟩
noncomputable def o47A (P : Params) : Obj := ⟨(.type "dict"), none, (.dict #[] 0), #[]⟩
noncomputable def o48A (P : Params) : Obj := ⟨(.type "tuple"), none, (.seq #[.none] 0), #[]⟩
noncomputable def o49A (P : Params) : Obj := ⟨(.type "tuple"), none, (.seq #[(.int 14 0), (.int 4 0), (.int 0 0), (.int 1 0), (.int 1 0), (.int 6 0), (.int 1 0), (.int 16 0), (.int 46 0), (.int 1 0)] 0), #[]⟩
noncomputable def o50A (P : Params) : Obj := ⟨(.type "re.Pattern"), none, (.fields #[(.str (⟨#[40, 63, 109, 41, 94, 92, 46]⟩ : Str) 321), (.int 40 334), (.int 0 0), .none, .none, (.ref 49), (.int 0 0)]), #[]⟩
noncomputable def o51A (P : Params) : Obj := ⟨(.type "list"), none, (.seq #[(.int 14 339), (.int 9 340), (.int 4 341), (.int 1 342), (.int 2 343), (.int 16 344), (.int 10 345), (.int 16 346), (.int 13 347), (.int 0 348), (.int 7 349), (.int 7 350), (.int 16 351), (.int 13 352), (.int 16 353), (.int 10 354), (.int 15 355), (.int 18 356), (.int 5 357), (.int 16 358), (.int 10 359), (.int 15 360), (.int 13 361), (.int 11 362), (.int 16 363), (.int 13 364), (.int 5 365), (.int 5 366), (.int 0 367), (.int 16 368), (.int 10 369), (.int 1 370), (.int 15 371), (.int 2 372), (.int 0 373), (.int 1 374)] 0), #[]⟩
noncomputable def o52A (P : Params) : Obj := ⟨(.type "dict"), none, (.dict #[] 0), #[]⟩
noncomputable def o53A (P : Params) : Obj := ⟨(.type "tuple"), none, (.seq #[.none] 0), #[]⟩
noncomputable def o54A (P : Params) : Obj := ⟨(.type "tuple"), none, (.seq #[(.int 14 0), (.int 9 0), (.int 4 0), (.int 1 0), (.int 2 0), (.int 16 0), (.int 10 0), (.int 16 0), (.int 13 0), (.int 0 0), (.int 7 0), (.int 7 0), (.int 16 0), (.int 13 0), (.int 16 0), (.int 10 0), (.int 15 0), (.int 18 0), (.int 5 0), (.int 16 0), (.int 10 0), (.int 15 0), (.int 13 0), (.int 11 0), (.int 16 0), (.int 13 0), (.int 5 0), (.int 5 0), (.int 0 0), (.int 16 0), (.int 10 0), (.int 1 0), (.int 15 0), (.int 2 0), (.int 0 0), (.int 1 0)] 0), #[]⟩
noncomputable def o55A (P : Params) : Obj := ⟨(.type "re.Pattern"), none, (.fields #[(.str (⟨#[40, 63, 58, 92, 114, 92, 110, 124, 92, 110, 124, 92, 114, 40, 63, 33, 92, 110, 41, 41]⟩ : Str) 337), (.int 32 376), (.int 0 0), .none, .none, (.ref 54), (.int 0 0)]), #[]⟩
noncomputable def o56A (P : Params) : Obj := ⟨(.type "tuple"), none, (.seq #[] 0), #[]⟩
noncomputable def o57A (P : Params) : Obj := ⟨.none, none, (.fields #[]), #[]⟩
noncomputable def o58A (P : Params) : Obj := ⟨(.type "tuple"), none, (.seq #[(.str (sT "data") 383)] 0), #[]⟩
noncomputable def o59A (P : Params) : Obj := ⟨(.type "tuple"), none, (.seq #[] 0), #[]⟩
noncomputable def o60A (P : Params) : Obj := ⟨.none, none, (.func ⟨(sT "quotedata"), (sT "quotedata"), fnP 11, .stmts (fnB 11), fnS 11, 0, [], .none, .none, .none, .none, none, .none, .none, 0⟩), #[]⟩
noncomputable def o61A (P : Params) : Obj := ⟨(.type "code"), none, (.fields #[(.str (sT "quotedata") 380), (.str (sT "quotedata") 381), (.str (sT "/claim/cut.py") 382), (.int 54 0), (.int 1 0), (.int 0 0), (.int 0 0), (.int 3 0), (.ref 56), (.bool true), (.int 276 0), (.ref 57), .none, (.ref 58), (.ref 59), (.ref 60), (.int 384 0), (.int 54 0), (.str (sT "/claim/cut.py") 385)]), #[]⟩
noncomputable def o62A (P : Params) : Obj := ⟨(.type "function"), none, (.func ⟨(sT "quotedata"), (sT "quotedata"), fnP 11, .stmts (fnB 11), fnS 11, 3, [], .none, .none, .none, (.str (sT "cpy313.smtplib") 318), none, (.ref 61), .none, 0⟩), #[]⟩
noncomputable def tA (P : Params) : BT := (.node (o0Z P) (.node (o1Z P) (.node (o3A P) (.node (o7Z P) (.node (o15Z P) (.node (o31P P) .nil .nil) (.node (o47A P) .nil .nil)) (.node (o23Z P) (.node (o39A P) .nil .nil) (.node (o55A P) .nil .nil))) (.node (o11Z P) (.node (o19Z P) (.node (o35A P) .nil .nil) (.node (o51A P) .nil .nil)) (.node (o27Z P) (.node (o43A P) .nil .nil) (.node (o59A P) .nil .nil)))) (.node (o5Z P) (.node (o9Z P) (.node (o17Z P) (.node (o33A P) .nil .nil) (.node (o49A P) .nil .nil)) (.node (o25Z P) (.node (o41A P) .nil .nil) (.node (o57A P) .nil .nil))) (.node (o13Z P) (.node (o21Z P) (.node (o37A P) .nil .nil) (.node (o53A P) .nil .nil)) (.node (o29A P) (.node (o45A P) .nil .nil) (.node (o61A P) .nil .nil))))) (.node (o2Z P) (.node (o4Z P) (.node (o8Z P) (.node (o16Z P) (.node (o32A P) .nil .nil) (.node (o48A P) .nil .nil)) (.node (o24Z P) (.node (o40A P) .nil .nil) (.node (o56A P) .nil .nil))) (.node (o12Z P) (.node (o20Z P) (.node (o36A P) .nil .nil) (.node (o52A P) .nil .nil)) (.node (o28Q P) (.node (o44A P) .nil .nil) (.node (o60A P) .nil .nil)))) (.node (o6Z P) (.node (o10Z P) (.node (o18Z P) (.node (o34A P) .nil .nil) (.node (o50A P) .nil .nil)) (.node (o26Z P) (.node (o42A P) .nil .nil) (.node (o58A P) .nil .nil))) (.node (o14Z P) (.node (o22Z P) (.node (o38A P) .nil .nil) (.node (o54A P) .nil .nil)) (.node (o30Q P) (.node (o46A P) .nil .nil) (.node (o62A P) .nil .nil))))))
noncomputable def o3B (P : Params) : Obj := ⟨(.type "dict"), none, (.dict #[⟨(PyData.keyHash P (sT "__name__")), (.str (sT "__name__") 165), (.str (sT "cpy313.stringprep") 387)⟩, ⟨(PyData.keyHash P (sT "__doc__")), (.str (sT "__doc__") 166), .none⟩, ⟨(PyData.keyHash P (sT "__package__")), (.str (sT "__package__") 167), .none⟩, ⟨(PyData.keyHash P (sT "__loader__")), (.str (sT "__loader__") 168), (.builtin "__main__.__loader__#opaque")⟩, ⟨(PyData.keyHash P (sT "__spec__")), (.str (sT "__spec__") 169), .none⟩, ⟨(PyData.keyHash P (sT "__annotations__")), (.str (sT "__annotations__") 170), (.ref 6)⟩, ⟨(PyData.keyHash P (sT "__builtins__")), (.str (sT "__builtins__") 171), (.ref 4)⟩, ⟨(PyData.keyHash P (sT "__file__")), (.str (sT "__file__") 173), (.str (sT "/claim/cut.py") 172)⟩, ⟨(PyData.keyHash P (sT "__cached__")), (.str (sT "__cached__") 174), .none⟩, ⟨(PyData.keyHash P (sT "_sre")), (.str (sT "_sre") 275), (.ref 12)⟩, ⟨(PyData.keyHash P (sT "_MAX_STRING_SIZE")), (.str (sT "_MAX_STRING_SIZE") 285), (.int 40 284)⟩, ⟨(PyData.keyHash P (sT "_MOVE_COST")), (.str (sT "_MOVE_COST") 287), (.int 2 286)⟩, ⟨(PyData.keyHash P (sT "_CASE_COST")), (.str (sT "_CASE_COST") 289), (.int 1 288)⟩, ⟨(PyData.keyHash P (sT "_substitution_cost")), (.str (sT "_substitution_cost") 297), (.ref 38)⟩, ⟨(PyData.keyHash P (sT "_levenshtein_distance")), (.str (sT "_levenshtein_distance") 317), (.ref 45)⟩, ⟨(PyData.keyHash P (sT "_twin_re_1")), (.str (sT "_twin_re_1") 335), (.ref 50)⟩, ⟨(PyData.keyHash P (sT "_twin_re_2")), (.str (sT "_twin_re_2") 377), (.ref 55)⟩, ⟨(PyData.keyHash P (sT "CRLF")), (.str (sT "CRLF") 379), (.str (⟨#[13, 10]⟩ : Str) 378)⟩, ⟨(PyData.keyHash P (sT "quotedata")), (.str (sT "quotedata") 386), (.ref 62)⟩, ⟨(PyData.keyHash P (sT "b1_set")), (.str (sT "b1_set") 448), (.ref 70)⟩] 20), #[]⟩
noncomputable def o63B (P : Params) : Obj := ⟨(.type "list"), none, (.seq #[(.int 173 389), (.int 847 390), (.int 6150 391), (.int 6155 392), (.int 6156 393), (.int 6157 394), (.int 8203 395), (.int 8204 396), (.int 8205 397), (.int 8288 398), (.int 65279 399)] 0), #[]⟩
noncomputable def o64B (P : Params) : Obj := ⟨(.type "range"), none, (.fields #[(.int 65024 400), (.int 65040 401), (.int 1 402)]), #[]⟩
noncomputable def o65B (P : Params) : Obj := ⟨(.type "list"), none, (.seq #[(.int 65024 405), (.int 65025 406), (.int 65026 407), (.int 65027 408), (.int 65028 409), (.int 65029 410), (.int 65030 411), (.int 65031 412), (.int 65032 413), (.int 65033 414), (.int 65034 415), (.int 65035 416), (.int 65036 417), (.int 65037 418), (.int 65038 419), (.int 65039 420)] 18), #[]⟩
noncomputable def o66B (P : Params) : Obj := ⟨(.type "range_iterator"), none, (.fields #[(.int 65040 0), (.int 0 0), (.int 1 0)]), #[]⟩
noncomputable def o67B (P : Params) : Obj := ⟨(.type "tuple"), none, (.seq #[] 0), #[]⟩
noncomputable def o68B (P : Params) : Obj := ⟨(.type "StopIteration"), none, (.fields #[(.ref 67), .none, .none, .none, (.bool false), .none]), #[]⟩
noncomputable def o69B (P : Params) : Obj := ⟨(.type "list"), none, (.seq #[(.int 173 389), (.int 847 390), (.int 6150 391), (.int 6155 392), (.int 6156 393), (.int 6157 394), (.int 8203 395), (.int 8204 396), (.int 8205 397), (.int 8288 398), (.int 65279 399), (.int 65024 405), (.int 65025 406), (.int 65026 407), (.int 65027 408), (.int 65028 409), (.int 65029 410), (.int 65030 411), (.int 65031 412), (.int 65032 413), (.int 65033 414), (.int 65034 415), (.int 65035 416), (.int 65036 417), (.int 65037 418), (.int 65038 419), (.int 65039 420)] 0), #[]⟩
noncomputable def o70B (P : Params) : Obj := ⟨(.type "set"), none, (.set #[(65024, (.int 65024 405)), (65025, (.int 65025 406)), (65026, (.int 65026 407)), (65027, (.int 65027 408)), (65028, (.int 65028 409)), (65029, (.int 65029 410)), (6150, (.int 6150 391)), (65030, (.int 65030 411)), (65031, (.int 65031 412)), (65032, (.int 65032 413)), (65033, (.int 65033 414)), (6155, (.int 6155 392)), (6156, (.int 6156 393)), (6157, (.int 6157 394)), (8203, (.int 8203 395)), (8204, (.int 8204 396)), (8205, (.int 8205 397)), (65034, (.int 65034 415)), (65035, (.int 65035 416)), (65036, (.int 65036 417)), (65037, (.int 65037 418)), (65038, (.int 65038 419)), (65039, (.int 65039 420)), (173, (.int 173 389)), (847, (.int 847 390)), (8288, (.int 8288 398)), (65279, (.int 65279 399))] 29 ⟨127, #[0, 1, 2, 3, 4, 5, 6, 7, 8, 9, 10, 11, 12, 13, 14, 15, 16, 17, 18, 19, 20, 21, 22, 45, 79, 96, 127], #[], 0, !P.followText "set-order", 2, true⟩), #[]⟩
noncomputable def o71B (P : Params) : Obj := ⟨(.type "list_iterator"), none, (.fields #[.none, (.int 27 0)]), #[]⟩
noncomputable def o72B (P : Params) : Obj := ⟨(.type "tuple"), none, (.seq #[] 0), #[]⟩
noncomputable def o73B (P : Params) : Obj := ⟨(.type "StopIteration"), none, (.fields #[(.ref 72), .none, .none, .none, (.bool false), .none]), #[]⟩
noncomputable def tB (P : Params) : BT := (.node (o0Z P) (.node (o1Z P) (.node (o3B P) (.node (o7Z P) (.node (o15Z P) (.node (o31P P) (.node (o63B P) .nil .nil) .nil) (.node (o47A P) .nil .nil)) (.node (o23Z P) (.node (o39A P) (.node (o71B P) .nil .nil) .nil) (.node (o55A P) .nil .nil))) (.node (o11Z P) (.node (o19Z P) (.node (o35A P) (.node (o67B P) .nil .nil) .nil) (.node (o51A P) .nil .nil)) (.node (o27Z P) (.node (o43A P) .nil .nil) (.node (o59A P) .nil .nil)))) (.node (o5Z P) (.node (o9Z P) (.node (o17Z P) (.node (o33A P) (.node (o65B P) .nil .nil) .nil) (.node (o49A P) .nil .nil)) (.node (o25Z P) (.node (o41A P) (.node (o73B P) .nil .nil) .nil) (.node (o57A P) .nil .nil))) (.node (o13Z P) (.node (o21Z P) (.node (o37A P) (.node (o69B P) .nil .nil) .nil) (.node (o53A P) .nil .nil)) (.node (o29A P) (.node (o45A P) .nil .nil) (.node (o61A P) .nil .nil))))) (.node (o2Z P) (.node (o4Z P) (.node (o8Z P) (.node (o16Z P) (.node (o32A P) (.node (o64B P) .nil .nil) .nil) (.node (o48A P) .nil .nil)) (.node (o24Z P) (.node (o40A P) (.node (o72B P) .nil .nil) .nil) (.node (o56A P) .nil .nil))) (.node (o12Z P) (.node (o20Z P) (.node (o36A P) (.node (o68B P) .nil .nil) .nil) (.node (o52A P) .nil .nil)) (.node (o28Q P) (.node (o44A P) .nil .nil) (.node (o60A P) .nil .nil)))) (.node (o6Z P) (.node (o10Z P) (.node (o18Z P) (.node (o34A P) (.node (o66B P) .nil .nil) .nil) (.node (o50A P) .nil .nil)) (.node (o26Z P) (.node (o42A P) .nil .nil) (.node (o58A P) .nil .nil))) (.node (o14Z P) (.node (o22Z P) (.node (o38A P) (.node (o70B P) .nil .nil) .nil) (.node (o54A P) .nil .nil)) (.node (o30Q P) (.node (o46A P) .nil .nil) (.node (o62A P) .nil .nil))))))
noncomputable def o3C (P : Params) : Obj := ⟨(.type "dict"), none, (.dict #[⟨(PyData.keyHash P (sT "__name__")), (.str (sT "__name__") 165), (.str (sT "cpy313.stringprep") 387)⟩, ⟨(PyData.keyHash P (sT "__doc__")), (.str (sT "__doc__") 166), .none⟩, ⟨(PyData.keyHash P (sT "__package__")), (.str (sT "__package__") 167), .none⟩, ⟨(PyData.keyHash P (sT "__loader__")), (.str (sT "__loader__") 168), (.builtin "__main__.__loader__#opaque")⟩, ⟨(PyData.keyHash P (sT "__spec__")), (.str (sT "__spec__") 169), .none⟩, ⟨(PyData.keyHash P (sT "__annotations__")), (.str (sT "__annotations__") 170), (.ref 6)⟩, ⟨(PyData.keyHash P (sT "__builtins__")), (.str (sT "__builtins__") 171), (.ref 4)⟩, ⟨(PyData.keyHash P (sT "__file__")), (.str (sT "__file__") 173), (.str (sT "/claim/cut.py") 172)⟩, ⟨(PyData.keyHash P (sT "__cached__")), (.str (sT "__cached__") 174), .none⟩, ⟨(PyData.keyHash P (sT "_sre")), (.str (sT "_sre") 275), (.ref 12)⟩, ⟨(PyData.keyHash P (sT "_MAX_STRING_SIZE")), (.str (sT "_MAX_STRING_SIZE") 285), (.int 40 284)⟩, ⟨(PyData.keyHash P (sT "_MOVE_COST")), (.str (sT "_MOVE_COST") 287), (.int 2 286)⟩, ⟨(PyData.keyHash P (sT "_CASE_COST")), (.str (sT "_CASE_COST") 289), (.int 1 288)⟩, ⟨(PyData.keyHash P (sT "_substitution_cost")), (.str (sT "_substitution_cost") 297), (.ref 38)⟩, ⟨(PyData.keyHash P (sT "_levenshtein_distance")), (.str (sT "_levenshtein_distance") 317), (.ref 45)⟩, ⟨(PyData.keyHash P (sT "_twin_re_1")), (.str (sT "_twin_re_1") 335), (.ref 50)⟩, ⟨(PyData.keyHash P (sT "_twin_re_2")), (.str (sT "_twin_re_2") 377), (.ref 55)⟩, ⟨(PyData.keyHash P (sT "CRLF")), (.str (sT "CRLF") 379), (.str (⟨#[13, 10]⟩ : Str) 378)⟩, ⟨(PyData.keyHash P (sT "quotedata")), (.str (sT "quotedata") 386), (.ref 62)⟩, ⟨(PyData.keyHash P (sT "b1_set")), (.str (sT "b1_set") 448), (.ref 70)⟩, ⟨(PyData.keyHash P (sT "in_table_b1")), (.str (sT "in_table_b1") 455), (.ref 80)⟩] 21), #[]⟩
noncomputable def o29C (P : Params) : Obj := ⟨.none, none, (.fields #[(.int 6 0), (.int 0 0), (.ref 37), (.int 12 0), (.int 0 0), (.ref 44), (.int 54 0), (.int 0 0), (.ref 61), (.int 58 0), (.int 0 0), (.ref 79)]), #[]⟩
noncomputable def o74C (P : Params) : Obj := ⟨(.type "tuple"), none, (.seq #[] 0), #[]⟩
noncomputable def o75C (P : Params) : Obj := ⟨.none, none, (.fields #[]), #[]⟩
noncomputable def o76C (P : Params) : Obj := ⟨(.type "tuple"), none, (.seq #[(.str (sT "code") 452)] 0), #[]⟩
noncomputable def o77C (P : Params) : Obj := ⟨(.type "tuple"), none, (.seq #[] 0), #[]⟩
noncomputable def o78C (P : Params) : Obj := ⟨.none, none, (.func ⟨(sT "in_table_b1"), (sT "in_table_b1"), fnP 14, .stmts (fnB 14), fnS 14, 0, [], .none, .none, .none, .none, none, .none, .none, 0⟩), #[]⟩
noncomputable def o79C (P : Params) : Obj := ⟨(.type "code"), none, (.fields #[(.str (sT "in_table_b1") 449), (.str (sT "in_table_b1") 450), (.str (sT "/claim/cut.py") 451), (.int 58 0), (.int 1 0), (.int 0 0), (.int 0 0), (.int 3 0), (.ref 74), (.bool true), (.int 276 0), (.ref 75), .none, (.ref 76), (.ref 77), (.ref 78), (.int 453 0), (.int 58 0), (.str (sT "/claim/cut.py") 454)]), #[]⟩
noncomputable def o80C (P : Params) : Obj := ⟨(.type "function"), none, (.func ⟨(sT "in_table_b1"), (sT "in_table_b1"), fnP 14, .stmts (fnB 14), fnS 14, 3, [], .none, .none, .none, (.str (sT "cpy313.stringprep") 387), none, (.ref 79), .none, 0⟩), #[]⟩
noncomputable def tC (P : Params) : BT := (.node (o0Z P) (.node (o1Z P) (.node (o3C P) (.node (o7Z P) (.node (o15Z P) (.node (o31P P) (.node (o63B P) .nil .nil) .nil) (.node (o47A P) (.node (o79C P) .nil .nil) .nil)) (.node (o23Z P) (.node (o39A P) (.node (o71B P) .nil .nil) .nil) (.node (o55A P) .nil .nil))) (.node (o11Z P) (.node (o19Z P) (.node (o35A P) (.node (o67B P) .nil .nil) .nil) (.node (o51A P) .nil .nil)) (.node (o27Z P) (.node (o43A P) (.node (o75C P) .nil .nil) .nil) (.node (o59A P) .nil .nil)))) (.node (o5Z P) (.node (o9Z P) (.node (o17Z P) (.node (o33A P) (.node (o65B P) .nil .nil) .nil) (.node (o49A P) .nil .nil)) (.node (o25Z P) (.node (o41A P) (.node (o73B P) .nil .nil) .nil) (.node (o57A P) .nil .nil))) (.node (o13Z P) (.node (o21Z P) (.node (o37A P) (.node (o69B P) .nil .nil) .nil) (.node (o53A P) .nil .nil)) (.node (o29C P) (.node (o45A P) (.node (o77C P) .nil .nil) .nil) (.node (o61A P) .nil .nil))))) (.node (o2Z P) (.node (o4Z P) (.node (o8Z P) (.node (o16Z P) (.node (o32A P) (.node (o64B P) .nil .nil) .nil) (.node (o48A P) (.node (o80C P) .nil .nil) .nil)) (.node (o24Z P) (.node (o40A P) (.node (o72B P) .nil .nil) .nil) (.node (o56A P) .nil .nil))) (.node (o12Z P) (.node (o20Z P) (.node (o36A P) (.node (o68B P) .nil .nil) .nil) (.node (o52A P) .nil .nil)) (.node (o28Q P) (.node (o44A P) (.node (o76C P) .nil .nil) .nil) (.node (o60A P) .nil .nil)))) (.node (o6Z P) (.node (o10Z P) (.node (o18Z P) (.node (o34A P) (.node (o66B P) .nil .nil) .nil) (.node (o50A P) .nil .nil)) (.node (o26Z P) (.node (o42A P) (.node (o74C P) .nil .nil) .nil) (.node (o58A P) .nil .nil))) (.node (o14Z P) (.node (o22Z P) (.node (o38A P) (.node (o70B P) .nil .nil) .nil) (.node (o54A P) .nil .nil)) (.node (o30Q P) (.node (o46A P) (.node (o78C P) .nil .nil) .nil) (.node (o62A P) .nil .nil))))))
noncomputable def o3D (P : Params) : Obj := ⟨(.type "dict"), none, (.dict #[⟨(PyData.keyHash P (sT "__name__")), (.str (sT "__name__") 165), (.str (sT "cpy313.stringprep") 387)⟩, ⟨(PyData.keyHash P (sT "__doc__")), (.str (sT "__doc__") 166), .none⟩, ⟨(PyData.keyHash P (sT "__package__")), (.str (sT "__package__") 167), .none⟩, ⟨(PyData.keyHash P (sT "__loader__")), (.str (sT "__loader__") 168), (.builtin "__main__.__loader__#opaque")⟩, ⟨(PyData.keyHash P (sT "__spec__")), (.str (sT "__spec__") 169), .none⟩, ⟨(PyData.keyHash P (sT "__annotations__")), (.str (sT "__annotations__") 170), (.ref 6)⟩, ⟨(PyData.keyHash P (sT "__builtins__")), (.str (sT "__builtins__") 171), (.ref 4)⟩, ⟨(PyData.keyHash P (sT "__file__")), (.str (sT "__file__") 173), (.str (sT "/claim/cut.py") 172)⟩, ⟨(PyData.keyHash P (sT "__cached__")), (.str (sT "__cached__") 174), .none⟩, ⟨(PyData.keyHash P (sT "_sre")), (.str (sT "_sre") 275), (.ref 12)⟩, ⟨(PyData.keyHash P (sT "_MAX_STRING_SIZE")), (.str (sT "_MAX_STRING_SIZE") 285), (.int 40 284)⟩, ⟨(PyData.keyHash P (sT "_MOVE_COST")), (.str (sT "_MOVE_COST") 287), (.int 2 286)⟩, ⟨(PyData.keyHash P (sT "_CASE_COST")), (.str (sT "_CASE_COST") 289), (.int 1 288)⟩, ⟨(PyData.keyHash P (sT "_substitution_cost")), (.str (sT "_substitution_cost") 297), (.ref 38)⟩, ⟨(PyData.keyHash P (sT "_levenshtein_distance")), (.str (sT "_levenshtein_distance") 317), (.ref 45)⟩, ⟨(PyData.keyHash P (sT "_twin_re_1")), (.str (sT "_twin_re_1") 335), (.ref 50)⟩, ⟨(PyData.keyHash P (sT "_twin_re_2")), (.str (sT "_twin_re_2") 377), (.ref 55)⟩, ⟨(PyData.keyHash P (sT "CRLF")), (.str (sT "CRLF") 379), (.str (⟨#[13, 10]⟩ : Str) 378)⟩, ⟨(PyData.keyHash P (sT "quotedata")), (.str (sT "quotedata") 386), (.ref 62)⟩, ⟨(PyData.keyHash P (sT "b1_set")), (.str (sT "b1_set") 448), (.ref 70)⟩, ⟨(PyData.keyHash P (sT "in_table_b1")), (.str (sT "in_table_b1") 455), (.ref 80)⟩, ⟨(PyData.keyHash P (sT "b3_exceptions")), (.str (sT "b3_exceptions") 2406), (.ref 81)⟩] 22), #[]⟩
noncomputable def tD (P : Params) (d : Nat → Obj) : BT := (.node (o0Z P) (.node (o1Z P) (.node (o3D P) (.node (o7Z P) (.node (o15Z P) (.node (o31P P) (.node (o63B P) .nil .nil) (.node (d 14) .nil .nil)) (.node (o47A P) (.node (o79C P) .nil .nil) (.node (d 30) .nil .nil))) (.node (o23Z P) (.node (o39A P) (.node (o71B P) .nil .nil) (.node (d 22) .nil .nil)) (.node (o55A P) (.node (d 6) .nil .nil) (.node (d 38) .nil .nil)))) (.node (o11Z P) (.node (o19Z P) (.node (o35A P) (.node (o67B P) .nil .nil) (.node (d 18) .nil .nil)) (.node (o51A P) (.node (d 2) .nil .nil) (.node (d 34) .nil .nil))) (.node (o27Z P) (.node (o43A P) (.node (o75C P) .nil .nil) (.node (d 26) .nil .nil)) (.node (o59A P) (.node (d 10) .nil .nil) .nil)))) (.node (o5Z P) (.node (o9Z P) (.node (o17Z P) (.node (o33A P) (.node (o65B P) .nil .nil) (.node (d 16) .nil .nil)) (.node (o49A P) (.node (d 0) .nil .nil) (.node (d 32) .nil .nil))) (.node (o25Z P) (.node (o41A P) (.node (o73B P) .nil .nil) (.node (d 24) .nil .nil)) (.node (o57A P) (.node (d 8) .nil .nil) .nil))) (.node (o13Z P) (.node (o21Z P) (.node (o37A P) (.node (o69B P) .nil .nil) (.node (d 20) .nil .nil)) (.node (o53A P) (.node (d 4) .nil .nil) (.node (d 36) .nil .nil))) (.node (o29C P) (.node (o45A P) (.node (o77C P) .nil .nil) (.node (d 28) .nil .nil)) (.node (o61A P) (.node (d 12) .nil .nil) .nil))))) (.node (o2Z P) (.node (o4Z P) (.node (o8Z P) (.node (o16Z P) (.node (o32A P) (.node (o64B P) .nil .nil) (.node (d 15) .nil .nil)) (.node (o48A P) (.node (o80C P) .nil .nil) (.node (d 31) .nil .nil))) (.node (o24Z P) (.node (o40A P) (.node (o72B P) .nil .nil) (.node (d 23) .nil .nil)) (.node (o56A P) (.node (d 7) .nil .nil) .nil))) (.node (o12Z P) (.node (o20Z P) (.node (o36A P) (.node (o68B P) .nil .nil) (.node (d 19) .nil .nil)) (.node (o52A P) (.node (d 3) .nil .nil) (.node (d 35) .nil .nil))) (.node (o28Q P) (.node (o44A P) (.node (o76C P) .nil .nil) (.node (d 27) .nil .nil)) (.node (o60A P) (.node (d 11) .nil .nil) .nil)))) (.node (o6Z P) (.node (o10Z P) (.node (o18Z P) (.node (o34A P) (.node (o66B P) .nil .nil) (.node (d 17) .nil .nil)) (.node (o50A P) (.node (d 1) .nil .nil) (.node (d 33) .nil .nil))) (.node (o26Z P) (.node (o42A P) (.node (o74C P) .nil .nil) (.node (d 25) .nil .nil)) (.node (o58A P) (.node (d 9) .nil .nil) .nil))) (.node (o14Z P) (.node (o22Z P) (.node (o38A P) (.node (o70B P) .nil .nil) (.node (d 21) .nil .nil)) (.node (o54A P) (.node (d 5) .nil .nil) (.node (d 37) .nil .nil))) (.node (o30Q P) (.node (o46A P) (.node (o78C P) .nil .nil) (.node (d 29) .nil .nil)) (.node (o62A P) (.node (d 13) .nil .nil) .nil))))))
noncomputable def o3E (P : Params) : Obj := ⟨(.type "dict"), none, (.dict #[⟨(PyData.keyHash P (sT "__name__")), (.str (sT "__name__") 165), (.str (sT "law_rl0109_01") 2415)⟩, ⟨(PyData.keyHash P (sT "__doc__")), (.str (sT "__doc__") 166), .none⟩, ⟨(PyData.keyHash P (sT "__package__")), (.str (sT "__package__") 167), .none⟩, ⟨(PyData.keyHash P (sT "__loader__")), (.str (sT "__loader__") 168), (.builtin "__main__.__loader__#opaque")⟩, ⟨(PyData.keyHash P (sT "__spec__")), (.str (sT "__spec__") 169), .none⟩, ⟨(PyData.keyHash P (sT "__annotations__")), (.str (sT "__annotations__") 170), (.ref 6)⟩, ⟨(PyData.keyHash P (sT "__builtins__")), (.str (sT "__builtins__") 171), (.ref 4)⟩, ⟨(PyData.keyHash P (sT "__file__")), (.str (sT "__file__") 173), (.str (sT "/claim/cut.py") 172)⟩, ⟨(PyData.keyHash P (sT "__cached__")), (.str (sT "__cached__") 174), .none⟩, ⟨(PyData.keyHash P (sT "_sre")), (.str (sT "_sre") 275), (.ref 12)⟩, ⟨(PyData.keyHash P (sT "_MAX_STRING_SIZE")), (.str (sT "_MAX_STRING_SIZE") 285), (.int 40 284)⟩, ⟨(PyData.keyHash P (sT "_MOVE_COST")), (.str (sT "_MOVE_COST") 287), (.int 2 286)⟩, ⟨(PyData.keyHash P (sT "_CASE_COST")), (.str (sT "_CASE_COST") 289), (.int 1 288)⟩, ⟨(PyData.keyHash P (sT "_substitution_cost")), (.str (sT "_substitution_cost") 297), (.ref 38)⟩, ⟨(PyData.keyHash P (sT "_levenshtein_distance")), (.str (sT "_levenshtein_distance") 317), (.ref 45)⟩, ⟨(PyData.keyHash P (sT "_twin_re_1")), (.str (sT "_twin_re_1") 335), (.ref 50)⟩, ⟨(PyData.keyHash P (sT "_twin_re_2")), (.str (sT "_twin_re_2") 377), (.ref 55)⟩, ⟨(PyData.keyHash P (sT "CRLF")), (.str (sT "CRLF") 379), (.str (⟨#[13, 10]⟩ : Str) 378)⟩, ⟨(PyData.keyHash P (sT "quotedata")), (.str (sT "quotedata") 386), (.ref 62)⟩, ⟨(PyData.keyHash P (sT "b1_set")), (.str (sT "b1_set") 448), (.ref 70)⟩, ⟨(PyData.keyHash P (sT "in_table_b1")), (.str (sT "in_table_b1") 455), (.ref 80)⟩, ⟨(PyData.keyHash P (sT "b3_exceptions")), (.str (sT "b3_exceptions") 2406), (.ref 81)⟩, ⟨(PyData.keyHash P (sT "map_table_b3")), (.str (sT "map_table_b3") 2414), (.ref 126)⟩, ⟨(PyData.keyHash P (sT "_law_mail")), (.str (sT "_law_mail") 2422), (.ref 131)⟩, ⟨(PyData.keyHash P (sT "_law_determinant")), (.str (sT "_law_determinant") 2428), (.ref 136)⟩, ⟨(PyData.keyHash P (sT "law")), (.str (sT "law") 2434), (.ref 141)⟩] 26), #[]⟩
noncomputable def o29E (P : Params) : Obj := ⟨.none, none, (.fields #[(.int 6 0), (.int 0 0), (.ref 37), (.int 12 0), (.int 0 0), (.ref 44), (.int 54 0), (.int 0 0), (.ref 61), (.int 58 0), (.int 0 0), (.ref 79), (.int 61 0), (.int 0 0), (.ref 125), (.int 67 0), (.int 0 0), (.ref 130), (.int 80 0), (.int 0 0), (.ref 135), (.int 98 0), (.int 0 0), (.ref 140)]), #[]⟩
noncomputable def o120E (P : Params) : Obj := ⟨(.type "tuple"), none, (.seq #[] 0), #[]⟩
noncomputable def o121E (P : Params) : Obj := ⟨.none, none, (.fields #[]), #[]⟩
noncomputable def o122E (P : Params) : Obj := ⟨(.type "tuple"), none, (.seq #[(.str (sT "code") 2410), (.str (sT "r") 2411)] 0), #[]⟩
noncomputable def o123E (P : Params) : Obj := ⟨(.type "tuple"), none, (.seq #[] 0), #[]⟩
noncomputable def o124E (P : Params) : Obj := ⟨.none, none, (.func ⟨(sT "map_table_b3"), (sT "map_table_b3"), fnP 16, .stmts (fnB 16), fnS 16, 0, [], .none, .none, .none, .none, none, .none, .none, 0⟩), #[]⟩
noncomputable def o125E (P : Params) : Obj := ⟨(.type "code"), none, (.fields #[(.str (sT "map_table_b3") 2407), (.str (sT "map_table_b3") 2408), (.str (sT "/claim/cut.py") 2409), (.int 61 0), (.int 1 0), (.int 0 0), (.int 0 0), (.int 3 0), (.ref 120), (.bool true), (.int 276 0), (.ref 121), .none, (.ref 122), (.ref 123), (.ref 124), (.int 2412 0), (.int 61 0), (.str (sT "/claim/cut.py") 2413)]), #[]⟩
noncomputable def o126E (P : Params) : Obj := ⟨(.type "function"), none, (.func ⟨(sT "map_table_b3"), (sT "map_table_b3"), fnP 16, .stmts (fnB 16), fnS 16, 3, [], .none, .none, .none, (.str (sT "cpy313.stringprep") 387), none, (.ref 125), .none, 0⟩), #[]⟩
noncomputable def o127E (P : Params) : Obj := ⟨(.type "tuple"), none, (.seq #[] 0), #[]⟩
noncomputable def o128E (P : Params) : Obj := ⟨.none, none, (.fields #[]), #[]⟩
noncomputable def o129E (P : Params) : Obj := ⟨.none, none, (.func ⟨(sT "_law_mail"), (sT "_law_mail"), fnP 18, .stmts (fnB 18), fnS 18, 0, [], .none, .none, .none, .none, none, .none, .none, 0⟩), #[]⟩
noncomputable def o130E (P : Params) : Obj := ⟨(.type "code"), none, (.fields #[(.str (sT "_law_mail") 2417), (.str (sT "_law_mail") 2418), (.str (sT "/claim/cut.py") 2419), (.int 67 0), (.int 4 0), (.int 0 0), (.int 0 0), (.int 3 0), (.ref 127), (.bool true), (.int 276 0), (.ref 128), .none, .none, .none, (.ref 129), (.int 2420 0), (.int 67 0), (.str (sT "/claim/cut.py") 2421)]), #[]⟩
noncomputable def o131E (P : Params) : Obj := ⟨(.type "function"), none, (.func ⟨(sT "_law_mail"), (sT "_law_mail"), fnP 18, .stmts (fnB 18), fnS 18, 3, [], .none, .none, .none, (.str (sT "law_rl0109_01") 2415), none, (.ref 130), .none, 0⟩), #[]⟩
noncomputable def o132E (P : Params) : Obj := ⟨(.type "tuple"), none, (.seq #[] 0), #[]⟩
noncomputable def o133E (P : Params) : Obj := ⟨.none, none, (.fields #[]), #[]⟩
noncomputable def o134E (P : Params) : Obj := ⟨.none, none, (.func ⟨(sT "_law_determinant"), (sT "_law_determinant"), fnP 19, .stmts (fnB 19), fnS 19, 0, [], .none, .none, .none, .none, none, .none, .none, 0⟩), #[]⟩
noncomputable def o135E (P : Params) : Obj := ⟨(.type "code"), none, (.fields #[(.str (sT "_law_determinant") 2423), (.str (sT "_law_determinant") 2424), (.str (sT "/claim/cut.py") 2425), (.int 80 0), (.int 1 0), (.int 0 0), (.int 0 0), (.int 3 0), (.ref 132), (.bool true), (.int 276 0), (.ref 133), .none, .none, .none, (.ref 134), (.int 2426 0), (.int 80 0), (.str (sT "/claim/cut.py") 2427)]), #[]⟩
noncomputable def o136E (P : Params) : Obj := ⟨(.type "function"), none, (.func ⟨(sT "_law_determinant"), (sT "_law_determinant"), fnP 19, .stmts (fnB 19), fnS 19, 3, [], .none, .none, .none, (.str (sT "law_rl0109_01") 2415), none, (.ref 135), .none, 0⟩), #[]⟩
noncomputable def o137E (P : Params) : Obj := ⟨(.type "tuple"), none, (.seq #[] 0), #[]⟩
noncomputable def o138E (P : Params) : Obj := ⟨.none, none, (.fields #[]), #[]⟩
noncomputable def o139E (P : Params) : Obj := ⟨.none, none, (.func ⟨(sT "law"), (sT "law"), fnP 20, .stmts (fnB 20), fnS 20, 0, [], .none, .none, .none, .none, none, .none, .none, 0⟩), #[]⟩
noncomputable def o140E (P : Params) : Obj := ⟨(.type "code"), none, (.fields #[(.str (sT "law") 2429), (.str (sT "law") 2430), (.str (sT "/claim/cut.py") 2431), (.int 98 0), (.int 1 0), (.int 0 0), (.int 0 0), (.int 3 0), (.ref 137), (.bool true), (.int 276 0), (.ref 138), .none, .none, .none, (.ref 139), (.int 2432 0), (.int 98 0), (.str (sT "/claim/cut.py") 2433)]), #[]⟩
noncomputable def o141E (P : Params) : Obj := ⟨(.type "function"), none, (.func ⟨(sT "law"), (sT "law"), fnP 20, .stmts (fnB 20), fnS 20, 3, [], .none, .none, .none, (.str (sT "law_rl0109_01") 2415), none, (.ref 140), .none, 0⟩), #[]⟩
noncomputable def tE (P : Params) (d : Nat → Obj) : BT := (.node (o0Z P) (.node (o1Z P) (.node (o3E P) (.node (o7Z P) (.node (o15Z P) (.node (o31P P) (.node (o63B P) (.node (o127E P) .nil .nil) .nil) (.node (d 14) .nil .nil)) (.node (o47A P) (.node (o79C P) .nil .nil) (.node (d 30) .nil .nil))) (.node (o23Z P) (.node (o39A P) (.node (o71B P) (.node (o135E P) .nil .nil) .nil) (.node (d 22) .nil .nil)) (.node (o55A P) (.node (d 6) .nil .nil) (.node (d 38) .nil .nil)))) (.node (o11Z P) (.node (o19Z P) (.node (o35A P) (.node (o67B P) (.node (o131E P) .nil .nil) .nil) (.node (d 18) .nil .nil)) (.node (o51A P) (.node (d 2) .nil .nil) (.node (d 34) .nil .nil))) (.node (o27Z P) (.node (o43A P) (.node (o75C P) (.node (o139E P) .nil .nil) .nil) (.node (d 26) .nil .nil)) (.node (o59A P) (.node (d 10) .nil .nil) (.node (o123E P) .nil .nil))))) (.node (o5Z P) (.node (o9Z P) (.node (o17Z P) (.node (o33A P) (.node (o65B P) (.node (o129E P) .nil .nil) .nil) (.node (d 16) .nil .nil)) (.node (o49A P) (.node (d 0) .nil .nil) (.node (d 32) .nil .nil))) (.node (o25Z P) (.node (o41A P) (.node (o73B P) (.node (o137E P) .nil .nil) .nil) (.node (d 24) .nil .nil)) (.node (o57A P) (.node (d 8) .nil .nil) (.node (o121E P) .nil .nil)))) (.node (o13Z P) (.node (o21Z P) (.node (o37A P) (.node (o69B P) (.node (o133E P) .nil .nil) .nil) (.node (d 20) .nil .nil)) (.node (o53A P) (.node (d 4) .nil .nil) (.node (d 36) .nil .nil))) (.node (o29E P) (.node (o45A P) (.node (o77C P) (.node (o141E P) .nil .nil) .nil) (.node (d 28) .nil .nil)) (.node (o61A P) (.node (d 12) .nil .nil) (.node (o125E P) .nil .nil)))))) (.node (o2Z P) (.node (o4Z P) (.node (o8Z P) (.node (o16Z P) (.node (o32A P) (.node (o64B P) (.node (o128E P) .nil .nil) .nil) (.node (d 15) .nil .nil)) (.node (o48A P) (.node (o80C P) .nil .nil) (.node (d 31) .nil .nil))) (.node (o24Z P) (.node (o40A P) (.node (o72B P) (.node (o136E P) .nil .nil) .nil) (.node (d 23) .nil .nil)) (.node (o56A P) (.node (d 7) .nil .nil) (.node (o120E P) .nil .nil)))) (.node (o12Z P) (.node (o20Z P) (.node (o36A P) (.node (o68B P) (.node (o132E P) .nil .nil) .nil) (.node (d 19) .nil .nil)) (.node (o52A P) (.node (d 3) .nil .nil) (.node (d 35) .nil .nil))) (.node (o28Q P) (.node (o44A P) (.node (o76C P) (.node (o140E P) .nil .nil) .nil) (.node (d 27) .nil .nil)) (.node (o60A P) (.node (d 11) .nil .nil) (.node (o124E P) .nil .nil))))) (.node (o6Z P) (.node (o10Z P) (.node (o18Z P) (.node (o34A P) (.node (o66B P) (.node (o130E P) .nil .nil) .nil) (.node (d 17) .nil .nil)) (.node (o50A P) (.node (d 1) .nil .nil) (.node (d 33) .nil .nil))) (.node (o26Z P) (.node (o42A P) (.node (o74C P) (.node (o138E P) .nil .nil) .nil) (.node (d 25) .nil .nil)) (.node (o58A P) (.node (d 9) .nil .nil) (.node (o122E P) .nil .nil)))) (.node (o14Z P) (.node (o22Z P) (.node (o38A P) (.node (o70B P) (.node (o134E P) .nil .nil) .nil) (.node (d 21) .nil .nil)) (.node (o54A P) (.node (d 5) .nil .nil) (.node (d 37) .nil .nil))) (.node (o30Q P) (.node (o46A P) (.node (o78C P) .nil .nil) (.node (d 29) .nil .nil)) (.node (o62A P) (.node (d 13) .nil .nil) (.node (o126E P) .nil .nil)))))))

noncomputable def topEnv : Env := { scope := pw.main.scope, locals := mainNs, globals := mainNs, cells := [], code := .ref 30, frame := some 31 }
noncomputable def Γ0 : Ctx := Ctx.of (.builtin "claim.caller" {}) []
noncomputable def topBody : List Stmt := behindTheImports pw
noncomputable def Γ1 (q : Pos) : Ctx := Γ0.enter (.body topBody topEnv) none q
noncomputable def stsA : List Stmt := topBody.take 12
noncomputable def stsB : List Stmt := (topBody.drop 12).take 1
noncomputable def stsC : List Stmt := (topBody.drop 13).take 1
noncomputable def stsD : List Stmt := (topBody.drop 14).take 1
noncomputable def stsE : List Stmt := topBody.drop 15
theorem body_is : topBody = stsA ++ (stsB ++ (stsC ++ (stsD ++ stsE))) := by kernel_rfl
theorem byFollow (row : String) {P : World → Prop} (hf : ∀ w : World, P (w.withFollow row false)) (ht : ∀ w : World, P (w.withFollow row true)) (w : World) : P w := byRow2 row hf ht w
theorem piece_code (w : World) (p : Pos) : evR (denote treeTable) pw w.params 300 Γ0 p ((moduleCode pw.main).bind fun a => .pure (.done (.ret a))) (tZ w.params) 28 276 = some (.ok (.ret (.ref 30)), tQ w.params, 31, 282) := by
  rw [PySem.W.Fast.te11892475500146522536, PySem.W.Fast.te14364793385576792824, PySem.W.Fast.te17154629097778926822]; kernel_rfl
theorem piece_frame (w : World) (p : Pos) : evR (denote treeTable) pw w.params 300 Γ0 p ((newBodyFrame (.ref 30) mainNs mainNs).bind fun a => .pure (.done (.ret (.ref a)))) (tQ w.params) 31 282 = some (.ok (.ret (.ref 31)), tP w.params, 32, 282) := by
  rw [PySem.W.Fast.te11892475500146522536, PySem.W.Fast.te14364793385576792824, PySem.W.Fast.te12822647523644345616]; kernel_rfl

theorem pieceA (w : World) (q p : Pos) : evR (denote treeTable) pw w.params 1500 (Γ1 q) p ((execs stsA topEnv).bind fun a => .pure (.done a)) (tP w.params) 32 282 = some (.ok .next, tA w.params, 63, 389) := by
  rw [PySem.W.Fast.te11892475500146522536, PySem.W.Fast.te14364793385576792824, PySem.W.Fast.te12563942051412417395]; kernel_rfl
theorem pieceBff (w : World) (q p : Pos) : evR (denote treeTable) pw ((w.withFollow "special-get-raises" false).withFollow "set-order" false).params 6000 (Γ1 q) p ((execs stsB topEnv).bind fun a => .pure (.done a)) (tA ((w.withFollow "special-get-raises" false).withFollow "set-order" false).params) 63 389 = some (.ok .next, tB ((w.withFollow "special-get-raises" false).withFollow "set-order" false).params, 74, 449) := by
  rw [PySem.W.Fast.te11892475500146522536, PySem.W.Fast.te14364793385576792824, PySem.W.Fast.te12563942051412417395]; kernel_rfl
theorem pieceBft (w : World) (q p : Pos) : evR (denote treeTable) pw ((w.withFollow "special-get-raises" true).withFollow "set-order" false).params 6000 (Γ1 q) p ((execs stsB topEnv).bind fun a => .pure (.done a)) (tA ((w.withFollow "special-get-raises" true).withFollow "set-order" false).params) 63 389 = some (.ok .next, tB ((w.withFollow "special-get-raises" true).withFollow "set-order" false).params, 74, 449) := by
  rw [PySem.W.Fast.te11892475500146522536, PySem.W.Fast.te14364793385576792824, PySem.W.Fast.te12563942051412417395]; kernel_rfl
theorem pieceBtf (w : World) (q p : Pos) : evR (denote treeTable) pw ((w.withFollow "special-get-raises" false).withFollow "set-order" true).params 6000 (Γ1 q) p ((execs stsB topEnv).bind fun a => .pure (.done a)) (tA ((w.withFollow "special-get-raises" false).withFollow "set-order" true).params) 63 389 = some (.ok .next, tB ((w.withFollow "special-get-raises" false).withFollow "set-order" true).params, 74, 449) := by
  rw [PySem.W.Fast.te11892475500146522536, PySem.W.Fast.te14364793385576792824, PySem.W.Fast.te12563942051412417395]; kernel_rfl
theorem pieceBtt (w : World) (q p : Pos) : evR (denote treeTable) pw ((w.withFollow "special-get-raises" true).withFollow "set-order" true).params 6000 (Γ1 q) p ((execs stsB topEnv).bind fun a => .pure (.done a)) (tA ((w.withFollow "special-get-raises" true).withFollow "set-order" true).params) 63 389 = some (.ok .next, tB ((w.withFollow "special-get-raises" true).withFollow "set-order" true).params, 74, 449) := by
  rw [PySem.W.Fast.te11892475500146522536, PySem.W.Fast.te14364793385576792824, PySem.W.Fast.te12563942051412417395]; kernel_rfl
theorem pieceB (w : World) (q p : Pos) : evR (denote treeTable) pw w.params 6000 (Γ1 q) p ((execs stsB topEnv).bind fun a => .pure (.done a)) (tA w.params) 63 389 = some (.ok .next, tB w.params, 74, 449) :=
  (byFollow "set-order" (P := fun w : World => evR (denote treeTable) pw w.params 6000 (Γ1 q) p ((execs stsB topEnv).bind fun a => .pure (.done a)) (tA w.params) 63 389 = some (.ok .next, tB w.params, 74, 449)) (byFollow "special-get-raises" (P := fun w : World => evR (denote treeTable) pw (w.withFollow "set-order" false).params 6000 (Γ1 q) p ((execs stsB topEnv).bind fun a => .pure (.done a)) (tA (w.withFollow "set-order" false).params) 63 389 = some (.ok .next, tB (w.withFollow "set-order" false).params, 74, 449)) (fun w => pieceBff w q p) (fun w => pieceBft w q p)) (byFollow "special-get-raises" (P := fun w : World => evR (denote treeTable) pw (w.withFollow "set-order" true).params 6000 (Γ1 q) p ((execs stsB topEnv).bind fun a => .pure (.done a)) (tA (w.withFollow "set-order" true).params) 63 389 = some (.ok .next, tB (w.withFollow "set-order" true).params, 74, 449)) (fun w => pieceBtf w q p) (fun w => pieceBtt w q p))) w
theorem pieceC (w : World) (q p : Pos) : evR (denote treeTable) pw w.params 1500 (Γ1 q) p ((execs stsC topEnv).bind fun a => .pure (.done a)) (tB w.params) 74 449 = some (.ok .next, tC w.params, 81, 456) := by
  rw [PySem.W.Fast.te11892475500146522536, PySem.W.Fast.te14364793385576792824, PySem.W.Fast.te12563942051412417395]; kernel_rfl
theorem pieceE (w : World) (q p : Pos) (d : Nat → Obj) : evR (denote treeTable) pw w.params 1500 (Γ1 q) p ((execs stsE topEnv).bind fun a => .pure (.done a)) (tD w.params d) 120 2407 = some (.ok .next, tE w.params d, 142, 2435) := by
  rw [PySem.W.Fast.te11892475500146522536, PySem.W.Fast.te14364793385576792824, PySem.W.Fast.te12563942051412417395]; kernel_rfl
end Mine
end

section
open PySem PySem.W PyProof.Rows
set_option Elab.async false
set_option linter.unusedVariables false
namespace Mine

section
variable {M : Model} {A : Around} {E : Value → Shared → Prop}
/-- a loop by what holds of the rest, the state and the heap -/
theorem forIn_inv {α β : Type} {f : α → β → Sem (ForInStep β)} (I : List α → β → Shared → Prop)
    (step : ∀ x rest b s, I (x :: rest) b s → wpAny M A (f x b) (fun r s' => ∃ b', r = .yield b' ∧ I rest b' s') E s) :
    ∀ (xs : List α) (b : β) (s : Shared), I xs b s → wpAny M A (forIn xs b f) (fun b' s' => I [] b' s') E s
  | [], b, s, h => by rw [List.forIn_nil]; exact wpAny_pure h
  | x :: xs, b, s, h => by
    rw [List.forIn_cons]
    refine wpAny_bind (wpAny_mono (step x xs b s h) (fun r s' q => ?_) fun _ _ e => e)
    obtain ⟨b', rfl, h'⟩ := q
    exact forIn_inv I step xs b' s' h'
end

noncomputable def dOb (es : Array DictEntry) (n : Nat) : Obj := ⟨.type "dict", none, .dict es n, #[]⟩
noncomputable def kI : Value → Option Int
  | .int i _ => some i
  | _ => none
noncomputable def sO : Value → Option Str
  | .str x _ => some x
  | _ => none
noncomputable def er (e : DictEntry) : Int × Option Int × Option Str := (e.hash, kI e.key, sO e.val)
noncomputable def sp (kv : Int × Str) : Int × Option Int × Option Str := (hashInt kv.1, some kv.1, some kv.2)
noncomputable def Ents (es : Array DictEntry) (kvs : List (Int × Str)) : Prop := es.toList.map er = kvs.map sp

theorem kI_some {v : Value} {k : Int} (h : kI v = some k) : ∃ t, v = .int k t := by
  cases v with
  | int i t => cases h; exact ⟨t, rfl⟩
  | _ => cases h
theorem sO_some {v : Value} {x : Str} (h : sO v = some x) : ∃ t, v = .str x t := by
  cases v with
  | str y t => cases h; exact ⟨t, rfl⟩
  | _ => cases h
theorem Ents.mem {es : Array DictEntry} {kvs : List (Int × Str)} (h : Ents es kvs) {e : DictEntry} (he : e ∈ es) : ∃ kv ∈ kvs, er e = sp kv := by
  have : er e ∈ es.toList.map er := List.mem_map_of_mem (Array.mem_toList_iff.mpr he)
  rw [h] at this
  obtain ⟨kv, h1, h2⟩ := List.mem_map.mp this
  exact ⟨kv, h1, h2.symm⟩
theorem Ents.keys {es : Array DictEntry} {kvs : List (Int × Str)} (h : Ents es kvs) : IntKeys es := fun e he => by
  obtain ⟨kv, _, h2⟩ := h.mem he
  simp only [er, sp, Prod.mk.injEq] at h2
  obtain ⟨t, ht⟩ := kI_some h2.2.1
  exact ⟨kv.1, t, ht, h2.1⟩
theorem Ents.size {es : Array DictEntry} {kvs : List (Int × Str)} (h : Ents es kvs) : es.size = kvs.length := by
  have := congrArg List.length h
  simpa using this
theorem Ents.absent {es : Array DictEntry} {kvs : List (Int × Str)} (h : Ents es kvs) {k : Int} (hk : k ∉ kvs.map (·.1)) : es.findIdx? (fun e => Value.isInt k e.key) = none := by
  rw [Array.findIdx?_eq_none_iff]
  intro e he
  obtain ⟨kv, h1, h2⟩ := h.mem he
  simp only [er, sp, Prod.mk.injEq] at h2
  obtain ⟨t, ht⟩ := kI_some h2.2.1
  rw [ht]
  show (kv.1 == k) = false
  rw [beq_eq_false_iff_ne]
  rintro rfl
  exact hk (List.mem_map_of_mem h1)
theorem Ents.push {es : Array DictEntry} {kvs : List (Int × Str)} (h : Ents es kvs) (k : Int) (x : Str) (t u : Tok) : Ents (es.push ⟨hashInt k, .int k t, .str x u⟩) (kvs ++ [(k, x)]) := by
  unfold Ents at h ⊢
  rw [Array.toList_push, List.map_append, List.map_append, h]
  rfl

section
variable {prog : Program} {w : World} {A : Around} {E : Value → Shared → Prop} {s : Shared}
theorem set_new {d : Addr} {es : Array DictEntry} {n : Nat} {k : Int} {t : Tok} {v : Value} {Q : Unit → Shared → Prop} (ho : s.heap.get? d = some (dOb es n)) (hk : IntKeys es)
    (hab : es.findIdx? (fun e => Value.isInt k e.key) = none) (hz : es.size ≤ sizeLine)
    (h : Q () { s with heap := s.heap.update d (Obj.mapDictKeys (·.push ⟨hashInt k, .int k t, v⟩)), toks := s.toks + 1 }) : wpAny (model prog w) A (dictSet d (.int k t) v) Q E s := by
  unfold dictSet
  refine wpAny_holding (wpAny_bind (wpAny_pyHash_int ?_))
  unfold dictSetHashed
  refine wpAny_holding (wpAny_bind (wpAny_dictFind_int (s := { s with toks := s.toks + 1 }) (o := dOb es n) (es := es) (ep := n) ho rfl hk ?_))
  rw [hab]
  exact wpAny_bind (wpAny_rule (wpAny_updateDictKeys (s := { s with toks := s.toks + 1 }) (o := dOb es n) (es := es) (ep := n) (hz := hz) ho rfl h))
theorem put_new {d : Addr} {es : Array DictEntry} {n : Nat} {k : Int} {t : Tok} {v : Value} {Q : Unit → Shared → Prop} (ho : s.heap.get? d = some (dOb es n)) (hk : IntKeys es)
    (hab : es.findIdx? (fun e => Value.isInt k e.key) = none) (hz : es.size ≤ sizeLine)
    (h : Q () { s with heap := s.heap.update d (Obj.mapDictKeys (·.push ⟨hashInt k, .int k t, v⟩)) }) : wpAny (model prog w) A (dictPut d (hashInt k) (.int k t) v) Q E s := by
  unfold dictPut
  refine wpAny_bind (wpAny_dictFind_int (o := dOb es n) (es := es) (ep := n) ho rfl hk ?_)
  rw [hab]
  exact wpAny_updateDictKeys (o := dOb es n) (es := es) (ep := n) (hz := hz) ho rfl h
end

theorem objs_update_ne {h : Heap} {a b : Addr} {f : Obj → Obj} (hb : b ≠ a) : (h.update a f).objs[b]? = h.objs[b]? := by
  obtain ⟨objs, life⟩ := h
  show (objs.modify a f)[b]? = objs[b]?
  rw [Array.getElem?_modify, if_neg (Ne.symm hb)]
theorem size_update {h : Heap} {a : Addr} {f : Obj → Obj} : (h.update a f).objs.size = h.objs.size := by
  obtain ⟨objs, life⟩ := h
  exact Array.size_modify ..
theorem objs_push_lt {h : Heap} {b : Addr} {o : Obj} (hb : b < h.objs.size) : (h.push o).objs[b]? = h.objs[b]? := by
  obtain ⟨objs, life⟩ := h
  show (objs.push o)[b]? = objs[b]?
  rw [Array.getElem?_push, if_neg (Nat.ne_of_lt hb)]
theorem size_push {h : Heap} {o : Obj} : (h.push o).objs.size = h.objs.size + 1 := by
  obtain ⟨objs, life⟩ := h
  exact Array.size_push ..
theorem get_objs {h h' : Heap} {b : Addr} (e : h'.objs[b]? = h.objs[b]?) : h'.get? b = h.get? b := by
  unfold Heap.get?; rw [e]

/-- a dict that is being filled: the rest of the heap is as in h₁ -/
structure SInv (h₁ : Heap) (d : Addr) (kvs : List (Int × Str)) (h : Heap) : Prop where
  size : h.objs.size = h₁.objs.size
  same : ∀ b, b ≠ d → h.objs[b]? = h₁.objs[b]?
  dict : ∃ es n, h.get? d = some (dOb es n) ∧ Ents es kvs
theorem SInv.push {h₁ h : Heap} {d : Addr} {kvs : List (Int × Str)} (I : SInv h₁ d kvs h) {es : Array DictEntry} {n : Nat} (ho : h.get? d = some (dOb es n)) (he : Ents es kvs) (k : Int) (x : Str) (t u : Tok) :
    SInv h₁ d (kvs ++ [(k, x)]) (h.update d (Obj.mapDictKeys (·.push ⟨hashInt k, .int k t, .str x u⟩))) :=
  ⟨size_update.trans I.size, fun b hb => (objs_update_ne hb).trans (I.same b hb), _, n + 1, Heap.get?_update_self _ ho rfl, he.push k x t u⟩

noncomputable def itm (pos : Pos) (kv : Int × Str) : Sem Value × Sem Value := (mkInt kv.1, do let x ← mkText kv.2; standAt pos; pure x)

theorem nodup_new {done rest : List (Int × Str)} {kv : Int × Str} (h : ((done ++ kv :: rest).map (·.1)).Nodup) : kv.1 ∉ done.map (·.1) := by
  rw [List.map_append, List.map_cons, List.nodup_append] at h
  intro q
  exact h.2.2 _ q _ (List.mem_cons_self) rfl

section
variable {prog : Program} {w : World} {A : Around} {E : Value → Shared → Prop} {s : Shared}
theorem evalPairs_ok {pos : Pos} : ∀ (run : List (Int × Str)) (s : Shared) (Q : List (Value × Value) → Shared → Prop),
    (∀ vs s', vs.map (fun p => (kI p.1, sO p.2)) = run.map (fun kv => (some kv.1, some kv.2)) → s'.heap = s.heap → s'.toks = s.toks + 2 * run.length → SameRest s s' → Q vs s') →
    wpAny (model prog w) A (evalPairs (run.map (itm pos))) Q E s
  | [], s, Q, h => wpAny_pure (h [] s rfl rfl rfl (.refl _))
  | kv :: run, s, Q, h => by
    rw [List.map_cons]
    refine evalPairs_cons (wpAny_mkInt ?_)
    refine wpAny_bind (wpAny_mkText ?_)
    refine wpAny_bind (wpAny_standAt ?_)
    refine wpAny_pure ?_
    refine (evalPairs_ok run _ _ fun vs s' h1 h2 h3 h4 => ?_)
    refine h _ s' (by rw [List.map_cons, List.map_cons, h1]; rfl) h2 ?_ h4
    rw [h3]; simp only [List.length_cons]; omega

theorem subDict_ok {pos : Pos} (run : List (Int × Str)) (hnd : (run.map (·.1)).Nodup) (hsz : run.length ≤ 1000) (s : Shared) (Q : Addr → Shared → Prop)
    (h : ∀ s', s'.heap.objs.size = s.heap.objs.size + 1 → (∀ b, b < s.heap.objs.size → s'.heap.objs[b]? = s.heap.objs[b]?) → (∃ es n, s'.heap.get? s.heap.objs.size = some (dOb es n) ∧ Ents es run) →
      s'.toks = s.toks + 3 * run.length → SameRest s s' → Q s.heap.objs.size s') : wpAny (model prog w) A (subDict (run.map (itm pos))) Q E s := by
  unfold subDict
  refine wpAny_bind (wpAny_alloc ?_)
  have hsl : (1000 : Nat) ≤ sizeLine := by rw [sizeLine_eq]; decide
  have I0 : SInv (s.heap.push (dOb #[] 0)) s.heap.objs.size [] (s.heap.push (dOb #[] 0)) := ⟨rfl, fun _ _ => rfl, #[], 0, Heap.get?_push_size _ rfl, rfl⟩
  have fin : ∀ s' : Shared, SInv (s.heap.push (dOb #[] 0)) s.heap.objs.size run s'.heap → s'.toks = s.toks + 3 * run.length → SameRest s s' → Q s.heap.objs.size s' := fun s' I t r =>
    h s' (I.size.trans size_push) (fun b hb => (I.same b (Nat.ne_of_lt hb)).trans (objs_push_lt hb)) I.dict t r
  refine wpAny_bind (wpAny_holding ?_)
  by_cases hl : (run.map (itm pos)).length ≤ 15
  · rw [if_pos hl]
    refine wpAny_bind (evalPairs_ok run _ _ fun vs s₁ h1 h2 h3 h4 => ?_)
    refine wpAny_holding ?_
    refine wpAny_bind (wpAny_mono (forIn_inv (fun (rest : List (Value × Value)) (_ : PUnit) (s₂ : Shared) => ∃ done more : List (Int × Str), run = done ++ more ∧ rest.map (fun p => (kI p.1, sO p.2)) = more.map (fun kv => (some kv.1, some kv.2)) ∧
        SInv (s.heap.push (dOb #[] 0)) s.heap.objs.size done s₂.heap ∧ s₂.toks = s₁.toks + done.length ∧ SameRest s s₂) ?_ vs ⟨⟩ s₁ ⟨[], run, rfl, h1, by rw [h2]; exact I0, rfl, h4⟩) (fun _ s₂ q => ?_) fun _ _ e => e)
    · rintro ⟨kv, vv⟩ rest b s₂ ⟨done, more, e1, e2, I, t, r⟩
      cases more with
      | nil => cases e2
      | cons x more =>
        simp only [List.map_cons, List.cons.injEq, Prod.mk.injEq] at e2
        obtain ⟨⟨q1, q2⟩, e2⟩ := e2
        obtain ⟨tk, rfl⟩ := kI_some q1
        obtain ⟨tv, rfl⟩ := sO_some q2
        obtain ⟨es, n, ho, he⟩ := I.dict
        subst e1
        refine wpAny_bind (set_new ho he.keys (he.absent (nodup_new hnd)) (by rw [he.size]; simp at hsz; omega) ?_)
        exact wpAny_pure ⟨⟨⟩, rfl, done ++ [x], more, by simp, e2, I.push ho he _ _ _ _, by simp only [List.length_append, List.length_singleton]; rw [t]; omega, r⟩
    · obtain ⟨done, more, e1, e2, I, t, r⟩ := q
      have : more = [] := by cases more with | nil => rfl | cons _ _ => cases e2
      subst this
      rw [List.append_nil] at e1
      subst e1
      refine wpAny_pure (wpAny_pure (fin s₂ I ?_ r))
      rw [t, h3]
      show s.toks + 2 * run.length + run.length = _
      omega
  · rw [if_neg hl]
    refine wpAny_bind (wpAny_rule ?_)
    refine wpAny_bind (wpAny_mono (forIn_inv (fun (rest : List (Sem Value × Sem Value)) (_ : PUnit) (s₂ : Shared) => ∃ done more : List (Int × Str), run = done ++ more ∧ rest = more.map (itm pos) ∧
        SInv (s.heap.push (dOb #[] 0)) s.heap.objs.size done s₂.heap ∧ s₂.toks = s.toks + 3 * done.length ∧ SameRest s s₂) ?_ _ ⟨⟩ _ ⟨[], run, rfl, rfl, I0, rfl, .refl _⟩) (fun _ s₂ q => ?_) fun _ _ e => e)
    · rintro p rest b s₂ ⟨done, more, e1, e2, I, t, r⟩
      cases more with
      | nil => cases e2
      | cons x more =>
        simp only [List.map_cons, List.cons.injEq] at e2
        obtain ⟨rfl, rfl⟩ := e2
        obtain ⟨es, n, ho, he⟩ := I.dict
        subst e1
        refine wpAny_bind (wpAny_mkInt ?_)
        refine wpAny_bind (wpAny_holding (wpAny_bind (wpAny_mkText ?_)))
        refine wpAny_bind (wpAny_standAt ?_)
        refine wpAny_pure ?_
        refine wpAny_bind (wpAny_holding (set_new (es := es) (n := n) ho he.keys (he.absent (nodup_new hnd)) (by rw [he.size]; simp at hsz; omega) ?_))
        exact wpAny_pure ⟨⟨⟩, rfl, done ++ [x], more, by simp, rfl, I.push ho he _ _ _ _, by simp only [List.length_append, List.length_singleton]; show s₂.toks + 1 + 1 + 1 = _; rw [t]; omega, r⟩
    · obtain ⟨done, more, e1, e2, I, t, r⟩ := q
      have : more = [] := by cases more with | nil => rfl | cons _ _ => cases e2
      subst this
      rw [List.append_nil] at e1
      subst e1
      exact wpAny_pure (wpAny_pure (fin s₂ I t r))

theorem Ents.at {es : Array DictEntry} {kvs : List (Int × Str)} (h : Ents es kvs) {i : Nat} {kv : Int × Str} (hi : kvs[i]? = some kv) : ∃ t u, es[i]? = some ⟨hashInt kv.1, .int kv.1 t, .str kv.2 u⟩ := by
  have := congrArg (·[i]?) h
  simp only [List.getElem?_map, hi, Option.map_some] at this
  rw [← Array.getElem?_toList]
  cases q : es.toList[i]? with
  | none => rw [q] at this; cases this
  | some e =>
    rw [q] at this
    simp only [Option.map_some, Option.some.injEq, er, sp, Prod.mk.injEq] at this
    obtain ⟨h1, h2, h3⟩ := this
    obtain ⟨t, ht⟩ := kI_some h2
    obtain ⟨u, hu⟩ := sO_some h3
    obtain ⟨a, b, c⟩ := e
    simp only at h1 ht hu
    subst h1 ht hu
    exact ⟨t, u, rfl⟩

theorem merge_ok {d a : Addr} (hda : d ≠ a) (hS : (a == sysModules) = false) (kvs run : List (Int × Str)) (hne : kvs ≠ []) (hnd : ((kvs ++ run).map (·.1)).Nodup) (hsz : (kvs ++ run).length ≤ 1000) (s : Shared) (Q : Unit → Shared → Prop)
    (hd : ∃ es n, s.heap.get? d = some (dOb es n) ∧ Ents es kvs) (ha : ∃ es n, s.heap.get? a = some (dOb es n) ∧ Ents es run)
    (h : ∀ s', SInv s.heap d (kvs ++ run) s'.heap → s'.toks = s.toks → SameRest s s' → Q () s') : wpAny (model prog w) A (mergeMapping d (.ref a) false) Q E s := by
  have hsl : (1000 : Nat) ≤ sizeLine := by rw [sizeLine_eq]; decide
  obtain ⟨es, n, ho, he⟩ := hd
  obtain ⟨es', n', ho', he'⟩ := ha
  have hT : s.TypeIs (.ref a) "dict" := ⟨_, ho', rfl⟩
  unfold mergeMapping
  refine wpAny_bind (wpAny_isInstance hT isSubtype_dict_dict ?_)
  dsimp only
  rw [if_pos rfl]
  refine wpAny_bind (wpAny_specialOf hT F.slot_dict_iter.lookup ?_)
  refine wpAny_bind (wpAny_pure ?_)
  rw [beq_self_eq_true]
  dsimp only
  rw [hS]
  simp only [Bool.false_eq_true, if_false]
  refine wpAny_bind (wpAny_dictEntries (o := dOb es n) (es := es) (ep := n) ho rfl ?_)
  have hemp : es.isEmpty = false := by
    cases q : es.isEmpty with
    | false => rfl
    | true =>
      have z := he.size
      rw [Array.isEmpty_iff.mp q] at z
      exact absurd (List.length_eq_zero_iff.mp z.symm) hne
  rw [hemp]
  simp only [Bool.false_eq_true, if_false]
  refine wpAny_bind (wpAny_dictEntries (o := dOb es' n') (es := es') (ep := n') ho' rfl ?_)
  refine wpAny_bind (wpAny_dictEpoch (o := dOb es' n') (es := es') (ep := n') ho' rfl ?_)
  refine wpAny_bind (wpAny_mono (forIn_inv (fun (rest : List Nat) (_ : PUnit) (s₂ : Shared) => ∃ i, i ≤ run.length ∧ rest = List.range' i (run.length - i) ∧ SInv s.heap d (kvs ++ run.take i) s₂.heap ∧ s₂.toks = s.toks ∧ SameRest s s₂) ?_ _ ⟨⟩ s
    ⟨0, Nat.zero_le _, by rw [he'.size, List.range_eq_range', Nat.sub_zero], ⟨rfl, fun _ _ => rfl, es, n, ho, by simpa using he⟩, rfl, .refl _⟩) (fun _ s₂ q => ?_) fun _ _ e => e)
  · rintro x rest b s₂ ⟨i, hi, e, I, t, r⟩
    have hlt : i < run.length := by
      apply Nat.lt_of_le_of_ne hi
      rintro rfl
      rw [Nat.sub_self] at e
      cases e
    have e' : run.length - i = (run.length - (i + 1)) + 1 := by omega
    rw [e', List.range'_succ] at e
    obtain ⟨hx, hr⟩ := List.cons.inj e
    subst x
    subst rest
    have ha₂ : s₂.heap.get? a = some (dOb es' n') := (get_objs (I.same a (Ne.symm hda))).trans ho'
    obtain ⟨es₂, n₂, ho₂, he₂⟩ := I.dict
    obtain ⟨t1, u1, q1⟩ := he'.at (i := i) (kv := run[i]) (List.getElem?_eq_getElem hlt)
    have htk : run.take (i + 1) = run.take i ++ [run[i]] := by rw [List.take_succ_eq_append_getElem hlt]
    have hall : ((kvs ++ run.take i ++ run[i] :: run.drop (i + 1)).map (·.1)).Nodup := by
      have : kvs ++ run.take i ++ run[i] :: run.drop (i + 1) = kvs ++ run := by
        rw [List.append_assoc, ← List.drop_eq_getElem_cons hlt, List.take_append_drop]
      rw [this]; exact hnd
    refine wpAny_bind (wpAny_dictEntries (o := dOb es' n') (es := es') (ep := n') ha₂ rfl ?_)
    rw [q1]
    dsimp only
    refine wpAny_bind (wpAny_holding ?_)
    refine put_new ho₂ he₂.keys (he₂.absent (nodup_new hall)) (by rw [he₂.size]; simp at hsz ⊢; omega) ?_
    refine wpAny_bind (wpAny_dictEpoch (o := dOb es' n') (es := es') (ep := n') ((Heap.get?_update_ne _ _ _ _ (Ne.symm hda)).trans ha₂) rfl ?_)
    rw [bne_self_eq_false]
    simp only [Bool.false_eq_true, if_false]
    refine wpAny_pure ⟨⟨⟩, rfl, i + 1, hlt, rfl, ?_, t, r⟩
    rw [htk, ← List.append_assoc]
    exact I.push ho₂ he₂ _ _ _ _
  · obtain ⟨i, hi, e, I, t, r⟩ := q
    have : run.length - i = 0 := by
      have := congrArg List.length e
      simpa using this.symm
    have hi' : i = run.length := by omega
    subst hi'
    rw [List.take_length] at I
    exact wpAny_pure (h s₂ I t r)
end
end Mine
end

section
open PySem PySem.W PyProof.Rows
set_option Elab.async false
set_option linter.unusedVariables false
namespace Mine
section
variable {prog : Program} {w : World} {A : Around} {E : Value → Shared → Prop}
noncomputable def item (pos : Pos) (kv : Int × Str) : Option (Sem Value) × Sem Value := (some (mkInt kv.1), do let x ← mkText kv.2; standAt pos; pure x)

/-- the display so far: done flushed in chunks of 17 -/
structure PInv (s₀ : Shared) (done : List (Int × Str)) (main : Option Addr) (j : Nat) (s : Shared) : Prop where
  size : s.heap.objs.size = s₀.heap.objs.size + j
  low : ∀ b, b < s₀.heap.objs.size → s.heap.objs[b]? = s₀.heap.objs[b]?
  toks : s.toks = s₀.toks + 3 * done.length
  rest : SameRest s₀ s
  main : (main = none ∧ done = [] ∧ j = 0) ∨ (main = some s₀.heap.objs.size ∧ done ≠ [] ∧ j ≠ 0 ∧ ∃ es n, s.heap.get? s₀.heap.objs.size = some (dOb es n) ∧ Ents es done)

theorem flush_ok {pos : Pos} {s₀ : Shared} (hN : sysModules < s₀.heap.objs.size) {done cur : List (Int × Str)} {main : Option Addr} {j : Nat} {s : Shared} (I : PInv s₀ done main j s) (hc : cur ≠ [])
    (hnd : ((done ++ cur).map (·.1)).Nodup) (hsz : (done ++ cur).length ≤ 1000) {Q : Option Addr → Shared → Prop} (h : ∀ s', PInv s₀ (done ++ cur) (some s₀.heap.objs.size) (j + 1) s' → Q (some s₀.heap.objs.size) s') :
    wpAny (model prog w) A (if (cur.map (itm pos)).isEmpty = true then pure main else match main with
      | none => do return some (← subDict (cur.map (itm pos)))
      | some d => do
        let sub ← holding [.ref d] (subDict (cur.map (itm pos)))
        (holding [.ref d, .ref sub] (mergeMapping d (.ref sub) false)).onRaise fun x => do let _ ← holding [.ref d, x] (runValue (.builtin "proto.let_go" {}))
        return some d) Q E s := by
  have hne : (cur.map (itm pos)).isEmpty = false := by
    cases cur with
    | nil => exact absurd rfl hc
    | cons a l => rfl
  rw [hne]
  simp only [Bool.false_eq_true, if_false]
  have hndc : (cur.map (·.1)).Nodup := by
    rw [List.map_append, List.nodup_append] at hnd
    exact hnd.2.1
  have hszc : cur.length ≤ 1000 := by simp at hsz; omega
  rcases I.main with ⟨rfl, rfl, rfl⟩ | ⟨rfl, hd, hj, hmain⟩
  · refine wpAny_bind (subDict_ok cur hndc hszc s _ fun s' h1 h2 h3 h4 h5 => wpAny_pure ?_)
    have hs : s.heap.objs.size = s₀.heap.objs.size := I.size
    rw [hs] at h1 h2 h3 ⊢
    refine h s' ⟨h1, fun b hb => (h2 b hb).trans (I.low b hb), ?_, I.rest.trans h5, .inr ⟨rfl, by simpa using hc, by omega, by simpa using h3⟩⟩
    rw [h4, I.toks]; simp
  · refine wpAny_bind (wpAny_holding (subDict_ok cur hndc hszc s _ fun s' h1 h2 h3 h4 h5 => ?_))
    have hlt : s₀.heap.objs.size < s.heap.objs.size := by rw [I.size]; omega
    obtain ⟨es, n, ho, he⟩ := hmain
    refine wpAny_bind (wpAny_onRaise (wpAny_holding ?_))
    refine merge_ok (d := s₀.heap.objs.size) (a := s.heap.objs.size) (Nat.ne_of_lt hlt) (beq_eq_false_iff_ne.mpr (Ne.symm (Nat.ne_of_lt (Nat.lt_trans hN hlt)))) done cur hd hnd hsz s' _ ⟨es, n, (get_objs (h2 _ hlt)).trans ho, he⟩ h3 fun s'' I' t r => wpAny_pure (h s'' ?_)
    refine ⟨by rw [I'.size, h1, I.size]; omega, fun b hb => (I'.same b (Nat.ne_of_lt hb)).trans ((h2 b (Nat.lt_trans hb hlt)).trans (I.low b hb)), ?_, I.rest.trans (h5.trans r), .inr ⟨rfl, by simp [hd], by omega, I'.dict⟩⟩
    rw [t, h4, I.toks]; simp only [List.length_append]; omega

theorem disp_ok {pos : Pos} (kvs : List (Int × Str)) (hne : kvs ≠ []) (hnd : (kvs.map (·.1)).Nodup) (hsz : kvs.length ≤ 1000) (s : Shared) (hN : sysModules < s.heap.objs.size) {Q : Value → Shared → Prop}
    (h : ∀ s', PInv s kvs (some s.heap.objs.size) ((kvs.length + 16) / 17) s' → Q (.ref s.heap.objs.size) s') :
    wpAny (model prog w) A (dictDisplay (kvs.map (item pos))) Q E s := by
  unfold dictDisplay
  dsimp only
  refine wpAny_bind (wpAny_mono (forIn_inv (fun (rest : List (Option (Sem Value) × Sem Value)) (b : Option Addr × List (Sem Value × Sem Value)) (s₂ : Shared) =>
    ∃ done cur more, kvs = done ++ cur ++ more ∧ rest = more.map (item pos) ∧ b.2 = cur.map (itm pos) ∧ cur.length < 17 ∧ done.length = 17 * (done.length / 17) ∧ PInv s done b.1 (done.length / 17) s₂) ?_ _ _ s
      ⟨[], [], kvs, rfl, rfl, rfl, by decide, rfl, ⟨rfl, fun _ _ => rfl, rfl, .refl _, .inl ⟨rfl, rfl, rfl⟩⟩⟩) (fun b s₂ q => ?_) fun _ _ e => e)
  · rintro x rest ⟨main, run⟩ s₂ ⟨done, cur, more, e1, e2, e3, hl, hd, I⟩
    cases more with
    | nil => cases e2
    | cons kv more =>
      rw [List.map_cons] at e2
      obtain ⟨rfl, rfl⟩ := List.cons.inj e2
      dsimp only at e3 I
      subst e3
      have hrun : cur.map (itm pos) ++ [(mkInt kv.1, (item pos kv).2)] = (cur ++ [kv]).map (itm pos) := by rw [List.map_append]; rfl
      unfold item
      dsimp only
      unfold item at hrun
      dsimp only at hrun
      rw [hrun]
      have e1' : kvs = done ++ (cur ++ [kv]) ++ more := by rw [e1]; simp
      by_cases q : (((cur ++ [kv]).map (itm pos)).length == 17) = true
      · rw [if_pos q]
        have ql : (cur ++ [kv]).length = 17 := by simpa using q
        have hnd' : ((done ++ (cur ++ [kv])).map (·.1)).Nodup := by
          rw [e1', List.map_append, List.nodup_append] at hnd
          exact hnd.1
        have hsz' : (done ++ (cur ++ [kv])).length ≤ 1000 := by rw [e1'] at hsz; rw [List.length_append] at hsz; omega
        refine wpAny_bind (flush_ok hN I (by simp) hnd' hsz' fun s' I' => wpAny_pure ⟨_, rfl, done ++ (cur ++ [kv]), [], more, by rw [e1']; simp, rfl, rfl, by decide, ?_, ?_⟩)
        · rw [List.length_append, ql]; omega
        · have : (done ++ (cur ++ [kv])).length / 17 = done.length / 17 + 1 := by rw [List.length_append, ql]; omega
          rw [this]
          exact I'
      · rw [if_neg q]
        have ql : (cur ++ [kv]).length ≠ 17 := by simpa using q
        refine wpAny_pure ⟨_, rfl, done, cur ++ [kv], more, e1', rfl, rfl, ?_, hd, I⟩
        rw [List.length_append, List.length_singleton] at ql ⊢
        omega
  · obtain ⟨done, cur, more, e1, e2, e3, hl, hd, I⟩ := q
    have : more = [] := by cases more with | nil => rfl | cons _ _ => cases e2
    subst this
    rw [List.append_nil] at e1
    obtain ⟨main, run⟩ := b
    dsimp only at e3 I
    subst e3
    by_cases hc : cur = []
    · subst hc
      rw [List.append_nil] at e1
      subst e1
      simp only [List.map_nil, List.isEmpty_nil, if_true]
      refine wpAny_bind (wpAny_pure ?_)
      rcases I.main with ⟨rfl, rfl, _⟩ | ⟨rfl, _⟩
      · exact absurd rfl hne
      · refine wpAny_pure (h s₂ ?_)
        have : (kvs.length + 16) / 17 = kvs.length / 17 := by omega
        rw [this]; exact I
    · refine wpAny_bind (flush_ok hN I hc (by rw [← e1]; exact hnd) (by rw [← e1]; exact hsz) fun s' I' => ?_)
      rw [← e1] at I'
      refine wpAny_pure (h s' ?_)
      have hcl : 0 < cur.length := List.length_pos_iff.mpr hc
      have : (kvs.length + 16) / 17 = done.length / 17 + 1 := by rw [e1, List.length_append]; omega
      rw [this]; exact I'
end
end Mine
end

section
open PySem PySem.W PyProof.Rows
set_option Elab.async false
set_option linter.unusedVariables false
namespace Mine

/-! trees and heaps -/
theorem list_at (T : BT) (n i : Nat) : (T.list n).toArray[i]? = if i < n then some ((T.get i).getD default) else none := by
  unfold BT.list
  rw [List.getElem?_toArray, List.getElem?_map]
  by_cases h : i < n
  · rw [List.getElem?_range h, if_pos h]; rfl
  · rw [List.getElem?_eq_none (by rw [List.length_range]; omega), if_neg h]; rfl
theorem list_size (T : BT) (n : Nat) : (T.list n).toArray.size = n := by
  unfold BT.list
  rw [List.size_toArray, List.length_map, List.length_range]
theorem RepT.of_objs {h : Heap} {T : BT} {n : Nat} (e : h.objs = (T.list n).toArray) : RepT h T n :=
  ⟨by rw [e, list_size], fun i o g hi => by rw [e, list_at, if_pos hi, g]; rfl⟩
noncomputable def fullT (T : BT) (n : Nat) : Bool := (List.range n).all fun i => (T.get i).isSome
theorem RepT.objs {h : Heap} {T : BT} {n : Nat} (R : RepT h T n) (f : fullT T n = true) : h.objs = (T.list n).toArray := by
  apply Array.ext_getElem?
  intro i
  rw [list_at]
  by_cases hi : i < n
  · rw [if_pos hi]
    have := List.all_eq_true.mp f i (List.mem_range.mpr hi)
    obtain ⟨o, ho⟩ := Option.isSome_iff_exists.mp this
    rw [R.obj i o ho hi, ho]; rfl
  · rw [if_neg hi, Array.getElem?_eq_none (by rw [R.size]; omega)]

noncomputable def insAll (T : BT) (n : Nat) : List Obj → BT
  | [] => T
  | o :: os => insAll (T.ins n o) (n + 1) os
noncomputable def okIns (T : BT) (n : Nat) : List Obj → Bool
  | [] => true
  | o :: os => match ((T.ins n o).get n).isSome with
    | true => okIns (T.ins n o) (n + 1) os
    | false => false
theorem rep_ins {h : Heap} : ∀ (os : List Obj) (T : BT) (n : Nat), (∀ i o, T.get i = some o → i < n → h.objs[i]? = some o) → okIns T n os = true → (∀ i o, os[i]? = some o → h.objs[n + i]? = some o) →
    ∀ i o, (insAll T n os).get i = some o → i < n + os.length → h.objs[i]? = some o
  | [], T, n, hT, _, _ => fun i o g hi => hT i o g (by simpa using hi)
  | x :: os, T, n, hT, hk, hos => by
    unfold okIns at hk
    split at hk
    · rename_i q
      intro i o g hi
      refine rep_ins os (T.ins n x) (n + 1) (fun i o g hi => ?_) hk (fun i o e => ?_) i o g (by rw [List.length_cons] at hi; omega)
      · rw [BT.get_ins x T n q] at g
        by_cases e : i = n
        · rw [if_pos e] at g
          cases g
          subst e
          exact hos 0 x rfl
        · rw [if_neg e] at g
          exact hT i o g (by omega)
      · have := hos (i + 1) o (by simpa using e)
        rw [show n + 1 + i = n + (i + 1) by omega]; exact this
    · cases hk

/-! wp of a text's statements, and of a call -/
section
variable {M : Model} {Γ : Ctx} {E : Value → Pos → Shared → Prop}
theorem wp_execs_append (env : Env) : ∀ (a b : List Stmt) (Q : Flow → Pos → Shared → Prop) (p : Pos) (s : Shared),
    Sem.wp M Γ (execs a env) (fun f p' s' => f = .next ∧ Sem.wp M Γ (execs b env) Q E p' s') E p s → Sem.wp M Γ (execs (a ++ b) env) Q E p s
  | [], b, Q, p, s, h => by
    rw [arm_execs_nil, Sem.wp_pure'] at h
    exact h.2
  | x :: a, b, Q, p, s, h => by
    rw [List.cons_append, arm_execs_cons, Sem.wp_bind']
    rw [arm_execs_cons, Sem.wp_bind'] at h
    refine Sem.wp_mono M Γ _ (fun f p' s' h' => ?_) (fun _ _ _ e => e) p s h
    cases f with
    | next => exact wp_execs_append env a b Q p' s' h'
    | brk => rw [Sem.wp_pure'] at h'; cases h'.1
    | cont => rw [Sem.wp_pure'] at h'; cases h'.1
    | ret v => rw [Sem.wp_pure'] at h'; cases h'.1
end

/-! the display's pairs out of the text -/
noncomputable def kvsOf : List (Option Expr) → List Expr → List (Int × Str)
  | some (.Constant (.int k) _ _) :: ks, .Constant (.str v) _ _ :: vs => (k, v) :: kvsOf ks vs
  | _, _ => []
noncomputable def allC : List (Option Expr) → List Expr → Bool
  | some (.Constant (.int _) _ _) :: ks, .Constant (.str _) _ _ :: vs => allC ks vs
  | [], [] => true
  | _, _ => false
theorem zip_items (env : Env) (pos : Pos) : ∀ (ks : List (Option Expr)) (vs : List Expr), allC ks vs = true →
    (evalEachOpt ks env).zip ((evalEach vs env).map fun v => do let x ← v; standAt pos; pure x) = (kvsOf ks vs).map (item pos) := by
  intro ks
  induction ks with
  | nil =>
    intro vs h
    cases vs with
    | nil => rfl
    | cons v vs => exact absurd h Bool.false_ne_true
  | cons k ks ih =>
    intro vs h
    cases k with
    | none => exact absurd h Bool.false_ne_true
    | some e =>
      cases e with
      | Constant c a b =>
        cases c with
        | int i =>
          cases vs with
          | nil => exact absurd h Bool.false_ne_true
          | cons v vs =>
            cases v with
            | Constant c2 a2 b2 =>
              cases c2 with
              | str x =>
                have z := ih vs h
                show _ = item pos (i, x) :: (kvsOf ks vs).map (item pos)
                rw [← z]
                rfl
              | _ => exact absurd h Bool.false_ne_true
            | _ => exact absurd h Bool.false_ne_true
        | _ => exact absurd h Bool.false_ne_true
      | _ => exact absurd h Bool.false_ne_true

theorem wp_assign_dict {M : Model} {Γ : Ctx} {E : Value → Pos → Shared → Prop} {env : Env} {ts : List Expr} {ks : List (Option Expr)} {vs : List Expr} {p1 p2 p : Pos} {s : Shared} {Q : Shared → Prop}
    (hs : swapsWithSole ts (.Dict ks vs p1) p2.line env = pure false) (hC : allC ks vs = true)
    (h : Sem.wp M Γ (dictDisplay ((kvsOf ks vs).map (item p1))) (fun v p' s' => Sem.wp M Γ (do
      let sw ← swappedStores ts (.Dict ks vs p1) env
      assignStores env v sw ((assignEach ts env).map (·.2))) (fun f _ s'' => f = .next ∧ Q s'') E p' s') E p1 s) :
    Sem.wp M Γ (execs [.Assign ts (.Dict ks vs p1) p2] env) (fun f _ s' => f = .next ∧ Q s') E p s := by
  rw [arm_execs_cons, Sem.wp_bind', arm_exec_Assign, hs]
  show Sem.wp M Γ (do
      let v ← eval (.Dict ks vs p1) env
      let sw ← swappedStores ts (.Dict ks vs p1) env
      assignStores env v sw ((assignEach ts env).map (·.2))) _ _ p2 s
  rw [Sem.wp_bind', arm_eval_Dict, zip_items env _ _ _ hC]
  show Sem.wp M Γ (dictDisplay ((kvsOf ks vs).map (item p1))) _ _ p1 s
  refine Sem.wp_mono _ _ _ (fun v p' s' x => ?_) (fun _ _ _ e => e) _ _ h
  refine Sem.wp_mono _ _ _ (fun f p'' s'' x => ?_) (fun _ _ _ e => e) _ _ x
  obtain ⟨rfl, y⟩ := x
  rw [arm_execs_nil]
  exact (Sem.wp_pure' ..).symm ▸ ⟨rfl, y⟩

/-- the statement that writes the dict, over letters -/
theorem dict_stmt {prog : Program} {w : World} {Γ : Ctx} {env : Env} {A : Around} (hA : Γ.In A) {l : List Stmt} {ts : List Expr} {ks : List (Option Expr)} {vs : List Expr} {p1 p2 : Pos}
    (hl : l = [.Assign ts (.Dict ks vs p1) p2]) (hs : swapsWithSole ts (.Dict ks vs p1) p2.line env = pure false) (hC : allC ks vs = true) {kv : List (Int × Str)} (hkv : kvsOf ks vs = kv)
    (hne : kv ≠ []) (hnd : (kv.map (·.1)).Nodup) (hsz : kv.length ≤ 1000) {T : BT} {n tk K n' tk1 n2 tk2 fuel : Nat} (hK : (kv.length + 16) / 17 = K) (hn : sysModules < n) (hn' : n + K = n') (htk : tk + 3 * kv.length = tk1)
    (okD : ∀ d : Nat → Obj, okIns T n ((List.range K).map d) = true) {T' : (Nat → Obj) → BT} {tl : Sem Flow} (htl : (do
      let sw ← swappedStores ts (.Dict ks vs p1) env
      assignStores env (.ref n) sw ((assignEach ts env).map (·.2))) = tl)
    (piece : ∀ (p : Pos) (d : Nat → Obj), evR (denote treeTable) prog w.params fuel Γ p (tl.bind fun a => .pure (.done a)) (insAll T n ((List.range K).map d)) n' tk1 = some (.ok .next, T' d, n2, tk2))
    (p : Pos) (s : Shared) (R : RepT s.heap T n) (k : s.toks = tk) :
    Sem.wp (model prog w) Γ (execs l env) (fun f _ s' => f = .next ∧ ∃ (d : Nat → Obj) (es : Array DictEntry) (m : Nat), RepT s'.heap (T' d) n2 ∧ d 0 = dOb es m ∧ Ents es kv ∧ s'.toks = tk2 ∧ SameRest s s') (fun _ _ _ => False) p s := by
  subst hl
  refine wp_assign_dict hs hC ?_
  rw [hkv]
  have hN : s.heap.objs.size = n := R.size
  have hd := disp_ok (prog := prog) (w := w) (A := A) (E := fun _ _ => False) (pos := p1) kv hne hnd hsz s (by rw [hN]; exact hn)
    (Q := fun v s' => v = .ref n ∧ PInv s kv (some n) K s') (fun s' I => ⟨by rw [hN], by rw [hK, hN] at I; exact I⟩)
  refine Sem.wp_mono _ _ _ (fun v p' s' x => ?_) (fun _ _ _ e => e) _ _ (hd Γ p1 hA)
  obtain ⟨rfl, I⟩ := x
  have hK0 : K ≠ 0 := by
    rcases I.main with ⟨e, _⟩ | ⟨_, _, h, _⟩
    · cases e
    · exact h
  have R' : RepT s'.heap (insAll T n ((List.range K).map fun i => (s'.heap.objs[n + i]?).getD default)) n' := by
    refine ⟨by rw [I.size, hN, hn'], fun i o g hi => rep_ins _ T n (fun i o g hi => by rw [I.low i (by rw [hN]; exact hi)]; exact R.obj i o g hi) (okD _) (fun i o e => ?_) i o g (by rw [List.length_map, List.length_range, hn']; exact hi)⟩
    rw [List.getElem?_map] at e
    by_cases hi : i < K
    · rw [List.getElem?_range hi] at e
      cases e
      have : n + i < s'.heap.objs.size := by rw [I.size, hN]; omega
      show s'.heap.objs[n + i]? = some ((s'.heap.objs[n + i]?).getD default)
      rw [Array.getElem?_eq_getElem this]; rfl
    · rw [List.getElem?_eq_none (by rw [List.length_range]; omega)] at e
      cases e
  rw [htl]
  have z := wp_of_ev (j := fun a : Flow => a) (fun _ _ e => e) (piece p' _) s' R' (by rw [I.toks, k, htk])
  refine Sem.wp_mono _ _ _ (fun f p'' s'' x => ?_) (fun _ _ _ e => e) _ _ z
  obtain ⟨rfl, y1, y2, y3⟩ := x
  rcases I.main with ⟨e, _⟩ | ⟨_, _, _, es, m, ho, he⟩
  · cases e
  · refine ⟨rfl, _, es, m, y1, ?_, he, y2, I.rest.trans y3⟩
    rw [hN] at ho
    show (s'.heap.objs[n + 0]?).getD default = dOb es m
    rw [Nat.add_zero]
    unfold Heap.get? at ho
    split at ho
    · cases ho
    · rw [ho]; rfl

/-- the whole top over letters -/
theorem top_all {prog : Program} {w : World} {body A B C D F : List Stmt} {env : Env} {cd : Value} {fr : Addr} {Γ0 : Ctx} {tZ tQ tP tA tB tC : BT} {tD tE : (Nat → Obj) → BT} {nZ nQ nP nA nB nC nD nE kZ kQ kP kA kB kC kD kE f1 f2 f3 f4 f5 f6 : Nat} {kv : List (Int × Str)}
    (hΓ : Γ0 = Ctx.of (.builtin "claim.caller" {}) []) (hbody : behindTheImports prog = body) (henv : env = { scope := prog.main.scope, locals := mainNs, globals := mainNs, cells := [], code := cd, frame := some fr }) (hb : body = A ++ (B ++ (C ++ (D ++ F)))) (hst : blockStart body env = pure ())
    (pc : ∀ p, evR (denote treeTable) prog w.params f1 Γ0 p ((moduleCode prog.main).bind fun a => .pure (.done (.ret a))) tZ nZ kZ = some (.ok (.ret cd), tQ, nQ, kQ))
    (pf : ∀ p, evR (denote treeTable) prog w.params f2 Γ0 p ((newBodyFrame cd mainNs mainNs).bind fun a => .pure (.done (.ret (.ref a)))) tQ nQ kQ = some (.ok (.ret (.ref fr)), tP, nP, kP))
    (pA : ∀ q p, evR (denote treeTable) prog w.params f3 (Γ0.enter (.body body env) none q) p ((execs A env).bind fun a => .pure (.done a)) tP nP kP = some (.ok .next, tA, nA, kA))
    (pB : ∀ q p, evR (denote treeTable) prog w.params f4 (Γ0.enter (.body body env) none q) p ((execs B env).bind fun a => .pure (.done a)) tA nA kA = some (.ok .next, tB, nB, kB))
    (pC : ∀ q p, evR (denote treeTable) prog w.params f5 (Γ0.enter (.body body env) none q) p ((execs C env).bind fun a => .pure (.done a)) tB nB kB = some (.ok .next, tC, nC, kC))
    (pD : ∀ q p s, RepT s.heap tC nC → s.toks = kC → Sem.wp (model prog w) (Γ0.enter (.body body env) none q) (execs D env) (fun f _ s' => f = .next ∧ ∃ (d : Nat → Obj) (es : Array DictEntry) (m : Nat), RepT s'.heap (tD d) nD ∧ d 0 = dOb es m ∧ Ents es kv ∧ s'.toks = kD ∧ SameRest s s') (fun _ _ _ => False) p s)
    (pE : ∀ q p d, evR (denote treeTable) prog w.params f6 (Γ0.enter (.body body env) none q) p ((execs F env).bind fun a => .pure (.done a)) (tD d) nD kD = some (.ok .next, tE d, nE, kE))
    (s : Shared) (R : RepT s.heap tZ nZ) (k : s.toks = kZ) (hg : s.gens = #[]) :
    Sem.wp (model prog w) (Ctx.of (.builtin "claim.caller" {}) []) (topStub prog).cur (fun fin _ s' => (∃ f, fin = .done f) ∧ ((∃ (d : Nat → Obj) (es : Array DictEntry) (m : Nat), RepT s'.heap (tE d) nE ∧ d 0 = dOb es m ∧ Ents es kv) ∧ SameRest s s') ∧ s'.gens = #[]) (fun _ _ _ => False) default s := by
  rw [← hΓ]
  show Sem.wp (model prog w) Γ0 (do
    let code ← moduleCode prog.main
    let frame ← newBodyFrame code mainNs mainNs
    let _ ← run (.body (behindTheImports prog) { scope := prog.main.scope, locals := mainNs, globals := mainNs, cells := [], code, frame := some frame })
    ret .none) _ _ default s
  rw [hbody, Sem.wp_bind']
  refine Sem.wp_mono _ _ _ (fun c p1 s1 x => ?_) (fun _ _ _ e => e) _ _ (wp_of_ev (j := fun a : Value => .ret a) (fun _ _ e => by injection e) (pc default) s R k)
  obtain ⟨rfl, R1, k1, r1⟩ := x
  rw [Sem.wp_bind']
  refine Sem.wp_mono _ _ _ (fun f p2 s2 x => ?_) (fun _ _ _ e => e) _ _ (wp_of_ev (j := fun a : Addr => .ret (.ref a)) (fun _ _ e => by injection e with e; injection e) (pf p1) s1 R1 k1)
  obtain ⟨rfl, R2, k2, r2⟩ := x
  rw [Sem.wp_bind', Sem.wp_run, ← henv]
  rw [wpCode_iff_wp]
  show Sem.wp (model prog w) (Γ0.enter (.body body env) none p2) (do blockStart body env; return PySem.Fin.done (← (execs body env).onRaise (leaving env))) _ _ p2 s2
  rw [hst]
  show Sem.wp (model prog w) (Γ0.enter (.body body env) none p2) (do return PySem.Fin.done (← (execs body env).onRaise (leaving env))) _ _ p2 s2
  rw [Sem.wp_bind', Sem.wp_onRaise]
  have main : Sem.wp (model prog w) (Γ0.enter (.body body env) none p2) (execs (A ++ (B ++ (C ++ (D ++ F)))) env) (fun f _ s' => f = .next ∧ (∃ (d : Nat → Obj) (es : Array DictEntry) (m : Nat), RepT s'.heap (tE d) nE ∧ d 0 = dOb es m ∧ Ents es kv) ∧ SameRest s s') (fun _ _ _ => False) p2 s2 := by
    refine wp_execs_append env _ _ _ _ _ ?_
    refine Sem.wp_mono _ _ _ (fun f p3 s3 x => ?_) (fun _ _ _ e => e) _ _ (wp_of_ev (j := fun a : Flow => a) (fun _ _ e => e) (pA p2 p2) s2 R2 k2)
    obtain ⟨rfl, R3, k3, r3⟩ := x
    refine ⟨rfl, wp_execs_append env _ _ _ _ _ ?_⟩
    refine Sem.wp_mono _ _ _ (fun f p4 s4 x => ?_) (fun _ _ _ e => e) _ _ (wp_of_ev (j := fun a : Flow => a) (fun _ _ e => e) (pB p2 p3) s3 R3 k3)
    obtain ⟨rfl, R4, k4, r4⟩ := x
    refine ⟨rfl, wp_execs_append env _ _ _ _ _ ?_⟩
    refine Sem.wp_mono _ _ _ (fun f p5 s5 x => ?_) (fun _ _ _ e => e) _ _ (wp_of_ev (j := fun a : Flow => a) (fun _ _ e => e) (pC p2 p4) s4 R4 k4)
    obtain ⟨rfl, R5, k5, r5⟩ := x
    refine ⟨rfl, wp_execs_append env _ _ _ _ _ ?_⟩
    refine Sem.wp_mono _ _ _ (fun f p6 s6 x => ?_) (fun _ _ _ e => e) _ _ (pD p2 p5 s5 R5 k5)
    obtain ⟨rfl, d, es, n, R6, hd, he, k6, r6⟩ := x
    refine ⟨rfl, ?_⟩
    refine Sem.wp_mono _ _ _ (fun f p7 s7 x => ?_) (fun _ _ _ e => e) _ _ (wp_of_ev (j := fun a : Flow => a) (fun _ _ e => e) (pE p2 p6 d) s6 R6 k6)
    obtain ⟨rfl, R7, k7, r7⟩ := x
    exact ⟨rfl, ⟨d, es, n, R7, hd, he⟩, r1.trans (r2.trans (r3.trans (r4.trans (r5.trans (r6.trans r7)))))⟩
  rw [← hb] at main
  refine Sem.wp_mono _ _ _ (fun f _ s' x => ?_) (fun _ _ _ e => e.elim) _ _ main
  obtain ⟨rfl, x1, x2⟩ := x
  rw [Sem.wp_pure']
  have last : Sem.wp (model prog w) Γ0 (ret .none) (fun fin _ s' => (∃ f, fin = PySem.Fin.done f) ∧ ((∃ (d : Nat → Obj) (es : Array DictEntry) (m : Nat), RepT s'.heap (tE d) nE ∧ d 0 = dOb es m ∧ Ents es kv) ∧ SameRest s s') ∧ s'.gens = #[]) (fun _ _ _ => False) p2 s' := by
    unfold ret
    rw [Sem.wp_pure']
    exact ⟨⟨_, rfl⟩, ⟨x1, x2⟩, x2.1.trans hg⟩
  exact last

/-! from wp to the schedule -/
theorem sched_of_wp {prog : Program} {w : World} {t : Sem Fin} {c : Code} {p : Pos} {s : Shared} {Q : Shared → Prop} (hz : s.asleep) (hg : s.gens = #[])
    (h : Sem.wp (model prog w) (Ctx.of c []) t (fun fin _ s' => (∃ f, fin = .done f) ∧ Q s' ∧ s'.gens = #[]) (fun _ _ _ => False) p s) :
    ∃ s₁ n t₁, schedN (denote table) prog w n (.single s ⟨t, c, p, []⟩) = .running (.single s₁ t₁) ∧ through t₁ = true ∧ Q s₁ ∧ s₁.gens = #[] ∧ s₁.heap.life = s.heap.life := by
  obtain ⟨n, s', σ, p', leaf, hr, hf, hl⟩ := wp_reaches (M := model prog w) h
  rcases hl with ⟨a, rfl, ⟨f, rfl⟩, hQ, hg'⟩ | ⟨e, _, hF⟩
  · obtain rfl := Shared.eq_of_forget_eq hf hg'
    have hh : Sem.wp (model prog w) ⟨c, none, none, [], none⟩ t (Sem.finPost (model prog w) ⟨c, none, none, [], none⟩ fun r s' => (∃ f, r = .ok f) ∧ leftWithCleanup s'.gens = false) (fun e _ s' => (∃ f, (Except.error e : Result) = .ok f) ∧ leftWithCleanup s'.gens = false) p s :=
      Sem.wp_mono _ _ _ (fun fin _ s' x => by
        obtain ⟨⟨f, rfl⟩, _, g⟩ := x
        exact ⟨⟨f, rfl⟩, by rw [g]; simp [leftWithCleanup]⟩) (fun _ _ _ x => x.elim) _ _ h
    obtain ⟨m, r, s₂, hm, _⟩ := (wp_iff_halts (M := model prog w) t _ p s).mp hh
    obtain ⟨s₃, h3, _, hc⟩ := runNI_real (denote table) prog w hm (outcomeOf_ends r)
    have hne : ∀ k s₂, runN (denote table) prog w k s ⟨t, c, p, []⟩ ≠ .halted (.unsupported "lifetime:generator-with-cleanup-left-suspended") s₂ := by
      intro k s₂ hk
      have a := runN_mono (denote table) prog w m k s ⟨t, c, p, []⟩ _ s₃ h3
      have b := runN_mono (denote table) prog w k m s ⟨t, c, p, []⟩ _ s₂ hk
      rw [Nat.add_comm, b] at a
      injection a with a1 _
      cases r <;> cases a1
    refine ⟨σ, n, _, (schedN_eq_runN (denote table) prog w s ⟨t, c, p, []⟩ hz ⟨hc, hne⟩ n).trans (congrArg Run.lift hr), rfl, hQ, hg', runN_life_running hr⟩
  · exact hF.elim
end Mine
end

section
open PySem PySem.W PyProof.Rows
set_option Elab.async false
set_option maxRecDepth 100000
set_option maxHeartbeats 0
set_option linter.unusedVariables false
namespace Mine

/-! the statement that writes the dict -/
noncomputable def dParts : List Expr × List (Option Expr) × List Expr × Pos × Pos := match stsD with
  | [.Assign ts (.Dict ks vs p1) p2] => (ts, ks, vs, p1, p2)
  | _ => ([], [], [], default, default)
theorem stsD_is : stsD = [.Assign dParts.1 (.Dict dParts.2.1 dParts.2.2.1 dParts.2.2.2.1) dParts.2.2.2.2] := by kernel_rfl
noncomputable def kvs : List (Int × Str) := kvsOf dParts.2.1 dParts.2.2.1
theorem allC_ok : allC dParts.2.1 dParts.2.2.1 = true := by kernel_rfl
noncomputable def incr : List (Int × Str) → Bool
  | a :: b :: l => decide (a.1 < b.1) && incr (b :: l)
  | _ => true
theorem incr_all : ∀ (l : List (Int × Str)) (a : Int × Str), incr (a :: l) = true → ∀ b ∈ l, a.1 < b.1
  | [], _, _, _, h => (nomatch h)
  | b :: l, a, h, c, hc => by
    simp only [incr, Bool.and_eq_true, decide_eq_true_eq] at h
    rcases List.mem_cons.mp hc with rfl | hc
    · exact h.1
    · exact Int.lt_trans h.1 (incr_all l b h.2 c hc)
theorem incr_tail {a : Int × Str} {l : List (Int × Str)} (h : incr (a :: l) = true) : incr l = true := by
  cases l with
  | nil => rfl
  | cons b l => simp only [incr, Bool.and_eq_true] at h; exact h.2
theorem incr_nodup : ∀ (l : List (Int × Str)), incr l = true → (l.map (·.1)).Nodup
  | [], _ => List.nodup_nil
  | a :: l, h => by
    rw [List.map_cons, List.nodup_cons]
    refine ⟨fun q => ?_, incr_nodup l (incr_tail h)⟩
    obtain ⟨b, hb, e⟩ := List.mem_map.mp q
    have := incr_all l a h b hb
    omega
theorem kvs_incr : incr kvs = true := by kernel_rfl
theorem kvs_len : kvs.length = 650 := by kernel_rfl
noncomputable def dTail : Sem Flow := do
  let sw ← swappedStores dParts.1 (.Dict dParts.2.1 dParts.2.2.1 dParts.2.2.2.1) topEnv
  assignStores topEnv (.ref 81) sw ((assignEach dParts.1 topEnv).map (·.2))
theorem pieceD (w : World) (q p : Pos) (d : Nat → Obj) : evR (denote treeTable) pw w.params 600 (Γ1 q) p (dTail.bind fun a => .pure (.done a)) (insAll (tC w.params) 81 ((List.range 39).map d)) 120 2406 = some (.ok .next, tD w.params d, 120, 2407) := by
  unfold dTail
  rw [PySem.W.Fast.te11892475500146522536, PySem.W.Fast.te14364793385576792824, PySem.W.Fast.te4016559146275205325, PySem.W.Fast.te2470068587113613483, PySem.W.Fast.te15628205474173192105]; kernel_rfl
theorem okD (P : Params) (d : Nat → Obj) : okIns (tC P) 81 ((List.range 39).map d) = true := by kernel_rfl
theorem noSwap : swapsWithSole dParts.1 (.Dict dParts.2.1 dParts.2.2.1 dParts.2.2.2.1) dParts.2.2.2.2.line topEnv = pure false := by kernel_rfl
noncomputable def AA : Around := { depth := 1000000000, units := 1000000000 }
theorem inAA (q : Pos) : (Γ1 q).In AA := ⟨rfl, Nat.le_of_ble_eq_true (by kernel_rfl), fun _ h => (nomatch h), fun _ h => (nomatch h), Nat.le_of_ble_eq_true (by kernel_rfl)⟩


end Mine
end

section
open PySem PySem.W PyProof.Rows
set_option Elab.async false
set_option linter.unusedVariables false
namespace Mine
structure Box (P : Prop) : Prop where out : P
theorem dict_box {prog : Program} {w : World} {Γ : Ctx} {env : Env} {A : Around} (hA : Γ.In A) {l : List Stmt} {ts : List Expr} {ks : List (Option Expr)} {vs : List Expr} {p1 p2 : Pos}
    (hl : l = [.Assign ts (.Dict ks vs p1) p2]) (hs : swapsWithSole ts (.Dict ks vs p1) p2.line env = pure false) (hC : allC ks vs = true) {kv : List (Int × Str)} (hkv : kvsOf ks vs = kv)
    (hne : kv ≠ []) (hnd : (kv.map (·.1)).Nodup) (hsz : kv.length ≤ 1000) {T : BT} {n tk K n' tk1 n2 tk2 fuel : Nat} (hK : (kv.length + 16) / 17 = K) (hn : sysModules < n) (hn' : n + K = n') (htk : tk + 3 * kv.length = tk1)
    (okD : ∀ d : Nat → Obj, okIns T n ((List.range K).map d) = true) {T' : (Nat → Obj) → BT} {tl : Sem Flow} (htl : (do
      let sw ← swappedStores ts (.Dict ks vs p1) env
      assignStores env (.ref n) sw ((assignEach ts env).map (·.2))) = tl)
    (piece : ∀ (p : Pos) (d : Nat → Obj), evR (denote treeTable) prog w.params fuel Γ p (tl.bind fun a => .pure (.done a)) (insAll T n ((List.range K).map d)) n' tk1 = some (.ok .next, T' d, n2, tk2))
    (p : Pos) (s : Shared) (R : RepT s.heap T n) (k : s.toks = tk) :
    Box (Sem.wp (model prog w) Γ (execs l env) (fun f _ s' => f = .next ∧ ∃ (d : Nat → Obj) (es : Array DictEntry) (m : Nat), RepT s'.heap (T' d) n2 ∧ d 0 = dOb es m ∧ Ents es kv ∧ s'.toks = tk2 ∧ SameRest s s') (fun _ _ _ => False) p s) :=
  ⟨dict_stmt hA hl hs hC hkv hne hnd hsz hK hn hn' htk okD htl piece p s R k⟩
theorem top_box {prog : Program} {w : World} {body A B C D F : List Stmt} {env : Env} {cd : Value} {fr : Addr} {Γ0 : Ctx} {Γ1 : Pos → Ctx} {tZ tQ tP tA tB tC : BT} {tD tE : (Nat → Obj) → BT} {nZ nQ nP nA nB nC nD nE kZ kQ kP kA kB kC kD kE f1 f2 f3 f4 f5 f6 : Nat} {kv : List (Int × Str)}
    (hΓ1 : ∀ q, Γ0.enter (.body body env) none q = Γ1 q) (hΓ : Γ0 = Ctx.of (.builtin "claim.caller" {}) []) (hbody : behindTheImports prog = body) (henv : env = { scope := prog.main.scope, locals := mainNs, globals := mainNs, cells := [], code := cd, frame := some fr }) (hb : body = A ++ (B ++ (C ++ (D ++ F)))) (hst : blockStart body env = pure ())
    (pc : ∀ p, evR (denote treeTable) prog w.params f1 Γ0 p ((moduleCode prog.main).bind fun a => .pure (.done (.ret a))) tZ nZ kZ = some (.ok (.ret cd), tQ, nQ, kQ))
    (pf : ∀ p, evR (denote treeTable) prog w.params f2 Γ0 p ((newBodyFrame cd mainNs mainNs).bind fun a => .pure (.done (.ret (.ref a)))) tQ nQ kQ = some (.ok (.ret (.ref fr)), tP, nP, kP))
    (pA : ∀ q p, evR (denote treeTable) prog w.params f3 (Γ1 q) p ((execs A env).bind fun a => .pure (.done a)) tP nP kP = some (.ok .next, tA, nA, kA))
    (pB : ∀ q p, evR (denote treeTable) prog w.params f4 (Γ1 q) p ((execs B env).bind fun a => .pure (.done a)) tA nA kA = some (.ok .next, tB, nB, kB))
    (pC : ∀ q p, evR (denote treeTable) prog w.params f5 (Γ1 q) p ((execs C env).bind fun a => .pure (.done a)) tB nB kB = some (.ok .next, tC, nC, kC))
    (pD : ∀ q p s, RepT s.heap tC nC → s.toks = kC → Box (Sem.wp (model prog w) (Γ1 q) (execs D env) (fun f _ s' => f = .next ∧ ∃ (d : Nat → Obj) (es : Array DictEntry) (m : Nat), RepT s'.heap (tD d) nD ∧ d 0 = dOb es m ∧ Ents es kv ∧ s'.toks = kD ∧ SameRest s s') (fun _ _ _ => False) p s))
    (pE : ∀ q p d, evR (denote treeTable) prog w.params f6 (Γ1 q) p ((execs F env).bind fun a => .pure (.done a)) (tD d) nD kD = some (.ok .next, tE d, nE, kE))
    (s : Shared) (R : RepT s.heap tZ nZ) (k : s.toks = kZ) (hg : s.gens = #[])
    (hz : s.asleep) : ∃ s₁ n t₁, schedN (denote table) prog w n (.single s (topStub prog)) = .running (.single s₁ t₁) ∧ through t₁ = true ∧
      ((∃ (d : Nat → Obj) (es : Array DictEntry) (m : Nat), RepT s₁.heap (tE d) nE ∧ d 0 = dOb es m ∧ Ents es kv) ∧ SameRest s s₁) ∧ s₁.gens = #[] ∧ s₁.heap.life = s.heap.life := by
  obtain rfl : (fun q => Γ0.enter (.body body env) none q) = Γ1 := funext hΓ1
  exact sched_of_wp (t := (topStub prog).cur) hz hg (top_all hΓ hbody henv hb hst pc pf pA pB pC (fun q p s R k => (pD q p s R k).out) pE s R k hg)
end Mine
end

section
open PySem PySem.W PyProof.Rows
set_option Elab.async false
set_option maxRecDepth 100000
set_option maxHeartbeats 0
set_option linter.unusedVariables false
namespace Mine

/-! the top, whole -/
noncomputable def TopIs (w : World) (s : Shared) : Prop := ∃ (d : Nat → Obj) (es : Array DictEntry) (m : Nat), RepT s.heap (tE w.params d) 142 ∧ d 0 = dOb es m ∧ Ents es kvs
theorem kvs_is : kvsOf dParts.2.1 dParts.2.2.1 = kvs := by kernel_rfl
theorem tail_is : (do
  let sw ← swappedStores dParts.1 (.Dict dParts.2.1 dParts.2.2.1 dParts.2.2.2.1) topEnv
  assignStores topEnv (.ref 81) sw ((assignEach dParts.1 topEnv).map (·.2))) = dTail := by kernel_rfl
theorem kvs_small : kvs.length ≤ 1000 := by rw [kvs_len]; exact Nat.le_of_ble_eq_true rfl
theorem kvs_chunks : (kvs.length + 16) / 17 = 39 := by rw [kvs_len]
theorem kvs_toks : 456 + 3 * kvs.length = 2406 := by rw [kvs_len]
theorem kvs_ne : kvs ≠ [] := fun e => by have := kvs_len; rw [e] at this; cases this
theorem wpD (w : World) (q p : Pos) (s : Shared) (R : RepT s.heap (tC w.params) 81) (k : s.toks = 456) :
    Box (Sem.wp (model pw w) (Γ1 q) (execs stsD topEnv) (fun f _ s' => f = .next ∧ ∃ (d : Nat → Obj) (es : Array DictEntry) (m : Nat), RepT s'.heap (tD w.params d) 120 ∧ d 0 = dOb es m ∧ Ents es kvs ∧ s'.toks = 2407 ∧ SameRest s s') (fun _ _ _ => False) p s) :=
  @dict_box pw w (Γ1 q) topEnv AA (inAA q) stsD dParts.1 dParts.2.1 dParts.2.2.1 dParts.2.2.2.1 dParts.2.2.2.2 stsD_is noSwap allC_ok kvs kvs_is kvs_ne (incr_nodup _ kvs_incr) kvs_small
    (tC w.params) 81 456 39 120 2406 120 2407 600 kvs_chunks (Nat.le_of_ble_eq_true (by kernel_rfl)) (by kernel_rfl) kvs_toks (okD w.params) (tD w.params) dTail tail_is (fun p d => pieceD w q p d) p s R k
theorem Γ1_is (q : Pos) : Γ0.enter (.body topBody topEnv) none q = Γ1 q := by kernel_rfl
theorem top_sched (w : World) (s : Shared) (R : RepT s.heap (tZ w.params) 28) (k : s.toks = 276) (hg : s.gens = #[]) (hz : s.asleep) :
    ∃ s₁ n t₁, schedN (denote table) pw w n (.single s (topStub pw)) = .running (.single s₁ t₁) ∧ through t₁ = true ∧ (TopIs w s₁ ∧ SameRest s s₁) ∧ s₁.gens = #[] ∧ s₁.heap.life = s.heap.life :=
  @top_box pw w topBody stsA stsB stsC stsD stsE topEnv (.ref 30) 31 Γ0 Γ1 (tZ w.params) (tQ w.params) (tP w.params) (tA w.params) (tB w.params) (tC w.params) (tD w.params) (tE w.params) _ _ _ _ _ _ _ _ _ _ _ _ _ _ _ _ _ _ _ _ _ _ kvs
    Γ1_is (by kernel_rfl) (by kernel_rfl) (by kernel_rfl) body_is (by kernel_rfl)
    (piece_code w) (piece_frame w) (pieceA w) (pieceB w) (pieceC w) (fun q p s R k => wpD w q p s R k) (pieceE w) s R k hg hz
end Mine
end

section
open PySem PySem.W PyProof.Rows
set_option Elab.async false
set_option maxRecDepth 100000
set_option maxHeartbeats 0
set_option linter.unusedVariables false
namespace Mine

/-! the opening -/
theorem open_is (w : World) : (fencedOpening treeTable pw w 28078).map (fun s => (s.heap.objs, s.gens, s.toks)) = some (((tZ w.params).list 28).toArray, #[], 276) := by
  unfold fencedOpening
  rw [PySem.W.Fast.te10274390034422433532, PySem.W.Fast.te14289696077712309145, PySem.W.Fast.te14364793385576792824]; kernel_rfl


end Mine
end

section
open PySem PySem.W PyProof.Rows
set_option Elab.async false
set_option maxRecDepth 100000
set_option maxHeartbeats 0
set_option linter.unusedVariables false
namespace Mine

/-! the looks at the top's end -/
noncomputable def qv : Program := view pw [0]
noncomputable def looseN : List Str := [sT "__name__", sT "_MAX_STRING_SIZE", sT "_MOVE_COST", sT "_CASE_COST", sT "_substitution_cost", sT "_levenshtein_distance", sT "_twin_re_1", sT "_twin_re_2", sT "CRLF", sT "quotedata", sT "b1_set", sT "in_table_b1", sT "b3_exceptions", sT "map_table_b3", sT "_law_mail", sT "_law_determinant", sT "law"]
theorem seen_is (w : World) (d : Nat → Obj) (life : Life) (dr : Drawn) (tk : Nat) (os : OsState) : openSeen qv looseN (importedModules pw.main.body) (fun _ => true) true ⟨⟨((tE w.params d).list 142).toArray, life⟩, #[], dr, tk, os⟩ = openGood qv looseN := by
  rw [PySem.W.Fast.te4187177175401517315]; kernel_rfl

end Mine
end

section
open PySem PySem.W PyProof.Rows
set_option Elab.async false
set_option maxRecDepth 100000
set_option maxHeartbeats 0
set_option linter.unusedVariables false
namespace Mine

theorem statics_is (w : World) (d : Nat → Obj) (l1 l2 : Life) : (staticsOk (importedModules pw.main.body) ⟨((tZ w.params).list 28).toArray, l1⟩ ⟨((tE w.params d).list 142).toArray, l2⟩ && namesBound pw ⟨((tE w.params d).list 142).toArray, l2⟩ && laidKept ⟨((tZ w.params).list 28).toArray, l1⟩ ⟨((tE w.params d).list 142).toArray, l2⟩) = true := by kernel_rfl
theorem fullE (P : Params) (d : Nat → Obj) : fullT (tE P d) 142 = true := by kernel_rfl
theorem fullZ (P : Params) : fullT (tZ P) 28 = true := by kernel_rfl

end Mine
end

section
open PySem PySem.W PyProof.Rows PySem.Calls
set_option Elab.async false
set_option linter.unusedVariables false
namespace Mine

/-- what the top leaves, over letters -/
noncomputable def TopAt (tE : Params → (Nat → Obj) → BT) (nE : Nat) (kv : List (Int × Str)) (w : World) (s : Shared) : Prop :=
  ∃ (d : Nat → Obj) (es : Array DictEntry) (m : Nat), RepT s.heap (tE w.params d) nE ∧ d 0 = dOb es m ∧ Ents es kv

structure HeadOk (p q : Program) (loose : List Str) (N nZ kZ nE a6 : Nat) (tZ : Params → BT) (tE : Params → (Nat → Obj) → BT) (kv : List (Int × Str)) : Prop where
  opened : ∀ w, (fencedOpening treeTable p w N).map (fun s => (s.heap.objs, s.gens, s.toks)) = some (((tZ w.params).list nZ).toArray, #[], kZ)
  fullE : ∀ P d, fullT (tE P d) nE = true
  fullZ : ∀ P, fullT (tZ P) nZ = true
  top : ∀ (w : World) (s : Shared), RepT s.heap (tZ w.params) nZ → s.toks = kZ → s.gens = #[] → s.asleep →
    ∃ s₁ n t₁, schedN (denote table) p w n (.single s (topStub p)) = .running (.single s₁ t₁) ∧ through t₁ = true ∧ (TopAt tE nE kv w s₁ ∧ SameRest s s₁) ∧ s₁.gens = #[] ∧ s₁.heap.life = s.heap.life
  seen : ∀ (w : World) (d : Nat → Obj) (life : Life) (dr : Drawn) (tk : Nat) (os : OsState), openSeen q loose (importedModules p.main.body) (fun _ => true) true ⟨⟨((tE w.params d).list nE).toArray, life⟩, #[], dr, tk, os⟩ = openGood q loose
  stat : ∀ (w : World) (d : Nat → Obj) (l1 l2 : Life), (staticsOk (importedModules p.main.body) ⟨((tZ w.params).list nZ).toArray, l1⟩ ⟨((tE w.params d).list nE).toArray, l2⟩ && namesBound p ⟨((tE w.params d).list nE).toArray, l2⟩ && laidKept ⟨((tZ w.params).list nZ).toArray, l1⟩ ⟨((tE w.params d).list nE).toArray, l2⟩) = true
  ann : ∀ (w : World) (l : Life), globalOf ⟨((tZ w.params).list nZ).toArray, l⟩ "__annotations__" = some (.ref a6)
  keep : ∀ P d b, b < nZ → b ≠ mainNs → b ≠ cStatics → b ≠ a6 → (tE P d).get b = (tZ P).get b
  le : nZ ≤ nE
  chains : chainsOk q = true

variable {p q : Program} {loose : List Str} {N nZ kZ nE a6 : Nat} {tZ : Params → BT} {tE : Params → (Nat → Obj) → BT} {kv : List (Int × Str)}

theorem get_of_rep {h : Heap} {T : BT} {n a : Nat} {o : Obj} (R : RepT h T n) (hf : fullT T n = true) (e : h.get? a = some o) : a < n ∧ T.get a = some o := by
  have ha : a < n := by
    rw [← R.size]
    exact Heap.lt_size e
  refine ⟨ha, ?_⟩
  have := List.all_eq_true.mp hf a (List.mem_range.mpr ha)
  obtain ⟨o', ho'⟩ := Option.isSome_iff_exists.mp this
  have h1 := get_of_objs (R.obj a o' ho' ha)
  rw [e] at h1
  have : o = o' := by
    obtain ⟨c, d, dt, sl⟩ := o'
    cases dt <;> first | (exact Option.some.inj h1) | cases h1
  rw [this]; exact ho'

theorem HeadOk.behind (H : HeadOk p q loose N nZ kZ nE a6 tZ tE kv) (w : World) :
    (∃ s, AfterRun (opening p) w s) ∧ ∀ s, AfterRun (opening p) w s → ∃ s₀, fenceModules? p s = some s₀ ∧ s₀.gens = #[] ∧ ∃ s₁, TopRan p w s₀ s₁ ∧ s₁.asleep ∧ s₁.gens = #[] ∧ s₁.heap.isNs mainGlobals = true ∧
      Ground q loose [] (fun _ _ => True) w s₁ (s₁.heap.nsMap mainGlobals) (s₁.heap.nsMap builtinsNs) s₁.heap ∧ TopAt tE nE kv w s₁ := by
  have h := H.opened w
  rw [← table_eq_tree] at h
  obtain ⟨s₀, h1, e⟩ := Option.map_eq_some_iff.mp h
  obtain ⟨s, h4, h5⟩ := Option.bind_eq_some_iff.mp h1
  have A := AfterImport.of_importEnds h4
  refine ⟨⟨s, A⟩, fun s' hs' => ?_⟩
  obtain rfl : s' = s := AfterImport.unique hs' A
  have z : s₀.asleep := Shared.asleep_of_life (fence_lifeW h5) A.life
  simp only [Prod.mk.injEq] at e
  obtain ⟨e1, e2, e3⟩ := e
  have R0 : RepT s₀.heap (tZ w.params) nZ := RepT.of_objs e1
  obtain ⟨s₁, n, t₁, hs, ht, ⟨T, sr⟩, hg, hl⟩ := H.top w s₀ R0 e3 e2 z
  obtain ⟨d, es, m, R1, hd, he⟩ := id T
  have e4 := R1.objs (H.fullE _ _)
  have S := H.seen w d s₁.heap.life s₁.drawn s₁.toks s₁.os
  have s₁e : s₁ = ⟨⟨((tE w.params d).list nE).toArray, s₁.heap.life⟩, #[], s₁.drawn, s₁.toks, s₁.os⟩ := by
    rw [← e4, ← hg]
  have s₀e : s₀.heap = ⟨((tZ w.params).list nZ).toArray, s₀.heap.life⟩ := by rw [← e1]
  have s₁h : s₁.heap = ⟨((tE w.params d).list nE).toArray, s₁.heap.life⟩ := by rw [← e4]
  rw [← s₁e] at S
  have hst := H.stat w d s₀.heap.life s₁.heap.life
  rw [← s₀e, ← s₁h] at hst
  obtain ⟨hst, hlk⟩ := Bool.and_eq_true_iff.mp hst
  obtain ⟨hst, hnb⟩ := Bool.and_eq_true_iff.mp hst
  obtain ⟨G, g0, g1, g2, g3, g4, g5⟩ := ground_of_open (w := w) (XP := fun _ _ => True) (fun _ _ => trivial) H.chains S
  refine ⟨s₀, h5, e2, s₁, ⟨⟨n, t₁, hs, ht⟩, hl, Shared.rest_eq sr.2.2, fun b o hb hn => ?_, g2, statics_of_ok hst, g3, g4, g5, (by rw [hg]; intro g hgm; simp at hgm), names_of_bound hnb, laid_of_kept hlk⟩, Shared.asleep_of_life hl z, hg, g1, G, T⟩
  obtain ⟨hb1, hb2⟩ := get_of_rep R0 (H.fullZ _) hb
  have ha := H.ann w s₀.heap.life
  rw [← s₀e] at ha
  have hne : b ≠ a6 := fun q => hn (.inr (.inr (by rw [q]; exact ha)))
  have hk := H.keep w.params d b hb1 (fun q => hn (.inl q)) (fun q => hn (.inr (.inl q))) hne
  rw [hb2] at hk
  have := get_of_objs (R1.obj b o hk (Nat.lt_of_lt_of_le hb1 H.le))
  rw [this]
  have h2 := get_of_objs (R0.obj b o hb2 hb1)
  rw [hb] at h2
  exact h2.symm

/-- the claim out of the head and the call's run -/
theorem HeadOk.holds {r : OpenRow} (H : HeadOk r.prog q loose N nZ kZ nE a6 tZ tE kv) (k1 : r.wellSaid = true) (ok : (opensWell r.prog && (frees r.toRowW && r.within.isEmpty)) = true) (hrec : r.records = [])
    (hb : r.prog.bare) (hw : r.toRowW.promised) (hwr : r.writes = false)
    (pin : ∀ w s, s.heap.isNs mainGlobals = true → TopAt tE nE kv w s → ∀ n ∈ (if r.pinned then [r.name] else []), isTheDefsW r.prog s.heap n)
    (call : ∀ (w : World) (s₀ s₁ : Shared) (mg mb : Str → Option Value), Ground q loose [] (fun _ _ => True) w s₀ mg mb s₁.heap → TopAt tE nE kv w s₀ → (∀ b o, s₀.heap.get? b = some o → s₁.heap.get? b = some o) → s₁.gens = #[] →
      ∀ (args : List WData) (vs : List Value) (as : List Addr), r.claim.pre args = true → WData.layableAll args = true → ReadsAllW [] (classAt s₀.heap) s₁.heap vs args as → ∃ f, mg r.name = some f ∧
        wpAny (model r.prog w) callerA (PySem.call f vs) (fun v s' => GoodWG r.claim (classAt s₀.heap) (ExcName.means s₀.heap) args s₁ (.ok (.ret v)) s') (fun _ _ => False) s₁) : r.Holds := by
  obtain ⟨o1, k5⟩ := Bool.and_eq_true_iff.mp ok
  obtain ⟨k5, k6⟩ := Bool.and_eq_true_iff.mp k5
  obtain ⟨hsame, hu, ha, hap, hm⟩ := frees_parts k5
  have hi := ident_freeW hu ha hap
  have hwi : r.claim.within = [] := List.isEmpty_iff.mp k6
  refine ⟨k1, hw, ⟨hb, o1, by show r.makers.map _ = []; rw [hm]; rfl⟩, hw.witness, fun w => ⟨(H.behind w).1, fun s' hs' => ?_⟩⟩
  obtain ⟨s₀, hf, hg0, s, hT, hz, hgens, hg, G, y⟩ := (H.behind w).2 s' hs'
  have hrec' : r.claim.records = [] := hrec
  have RF : RecFacts r.records s.heap := recFacts_nil hrec
  refine ⟨s₀, hf, hg0, s, hT, pin w s hg y, RF.1, RF.2.1, ?_⟩
  refine ClaimW.callFrom_of_specG (c := r.claim) (tree := fun vs => do match ← nsGet mainNs r.name with
      | some f => do ret (← PySem.call f vs)
      | none => unsupported "claim.caller:no-such-global") hz hgens fun args hpre hlay ord hord => ?_
  have G' : Ground q loose r.records (fun _ _ => True) w s _ _ s.heap := RF.ground G
  obtain ⟨⟨vs, s₁⟩, hlaid⟩ := Option.isSome_iff_exists.mp (layAllW_isSome (P := w.params) (ord := ord) G'.has args r.args s (pre_splitW (r := r.toRowW) hpre).1)
  have keeps := layAllW_keeps _ _ _ hlaid
  have hal := layAllW_rest _ _ _ hlaid
  obtain ⟨as, hrd, hin, hold⟩ := reads_layAllW hord _ _ _ hlaid hlay s₁.heap (fun _ _ e => e)
  have L : Laid r.records w s s₁ args vs as := ⟨⟨ord, hord, hlaid⟩, hrd, hin, hold, keeps, hal.1.trans hgens, hal.2.2.1⟩
  have G₁ := G.keeps (fun _ _ _ _ _ => trivial) keeps
  have hrd' := hrd
  rw [hrec] at hrd'
  obtain ⟨f, hf, h⟩ := call w s s₁ _ _ G₁ y keeps L.gens args vs as hpre hlay hrd'
  refine ⟨vs, s₁, hlaid, ?_⟩
  refine wpAny_bind (wpAny_nsGet G₁.T.g (by rw [hf]; exact wpAny_bind (wpAny_mono h (fun v s' g => wpAny_pure ⟨_, rfl, have z := GoodWG.laid (c := r.claim) hsame hwi hi L g; ⟨z.1, z.2.1, z.2.2, fun q => absurd q (by rw [hwr]; decide)⟩⟩) fun e s' g => g.elim)))
end Mine
end

section
open PySem PySem.W PyProof.Rows PySem.Calls
set_option Elab.async false
set_option maxRecDepth 100000
set_option maxHeartbeats 0
set_option linter.unusedVariables false
namespace Mine
noncomputable def keptNs : List Nat := (List.range 28).filter fun b => !(b == mainNs || b == cStatics || b == 6)
theorem kept_all (P : Params) (d : Nat → Obj) : keptNs.map (fun b => (tE P d).get b) = keptNs.map (fun b => (tZ P).get b) := by kernel_rfl
theorem kept_one (P : Params) (d : Nat → Obj) (b : Nat) (h : b < 28) (h1 : b ≠ mainNs) (h2 : b ≠ cStatics) (h3 : b ≠ 6) : (tE P d).get b = (tZ P).get b := by
  have hm : b ∈ keptNs := List.mem_filter.mpr ⟨List.mem_range.mpr h, by simp [h1, h2, h3]⟩
  have := List.map_inj_left.mp (kept_all P d) b hm
  exact this
theorem ann_is (w : World) (l : Life) : globalOf ⟨((tZ w.params).list 28).toArray, l⟩ "__annotations__" = some (.ref 6) := by kernel_rfl
theorem chains_ok : chainsOk qv = true := by kernel_rfl
theorem headOk : HeadOk pw qv looseN 28078 28 276 142 6 tZ tE kvs :=
  ⟨open_is, fullE, fullZ, top_sched, seen_is, statics_is, ann_is, kept_one, Nat.le_of_ble_eq_true rfl, chains_ok⟩
end Mine
end

section
open PySem PySem.Sre
set_option Elab.async false
set_option linter.unusedVariables false
namespace Mine
noncomputable def code1 : Array Nat := #[14, 4, 0, 1, 1, 6, 1, 16, 46, 1]
/-- an attempt at s: the machine stands at pc, the text at p -/
noncomputable def at1 (x : Array Nat) (s pc p hd : Nat) (first ma : Bool) (sn : Seen) : M :=
  { code := code1, text := x, lim := x.size, start := s, lastStart := x.size, mustAdvance := ma, pc := pc, pos := p, handed := hd, outermost := first, marks := #[], lastmark := -1, lastindex := -1,
    frames := [{ wait := .nextStart, pc := 5, pos := s, outermost := first }], weight := 1, seen := sn }
/-- the answer is there -/
noncomputable def no1 (x : Array Nat) (s pc p hd : Nat) (first ma : Bool) (sn : Seen) : M := { at1 x s pc p hd first ma sn with answer := some false }
noncomputable def yes1 (x : Array Nat) (s pc p hd : Nat) (first ma : Bool) (sn : Seen) : M := { at1 x s pc p hd first ma sn with answer := some true }

theorem s1_at {x : Array Nat} {s : Nat} {first ma : Bool} {sn : Seen} (h : (s == 0 || x.getD (s - 1) 0 == 10) = true) : ∃ sn', (at1 x s 5 s s first ma sn).step = at1 x s 7 s s first ma sn' := by
  refine ⟨(sn.add 6).add 44, ?_⟩
  show (if (s == 0 || x.getD (s - 1) 0 == 10) = true then _ else _) = _
  rw [if_pos h]
  rfl
theorem s1_at' {x : Array Nat} {s : Nat} {first ma : Bool} {sn : Seen} (h : (s == 0 || x.getD (s - 1) 0 == 10) = false) : ∃ sn', (at1 x s 5 s s first ma sn).step = no1 x s 5 s s first ma sn' := by
  refine ⟨(sn.add 6).add 44, ?_⟩
  show (if (s == 0 || x.getD (s - 1) 0 == 10) = true then _ else _) = _
  rw [if_neg (by rw [h]; decide)]
  rfl
theorem s1_lit {x : Array Nat} {s : Nat} {first ma : Bool} {sn : Seen} (h1 : s < x.size) (h2 : x.getD s 0 = 46) : ∃ sn', (at1 x s 7 s s first ma sn).step = at1 x s 9 (s + 1) s first ma sn' := by
  refine ⟨sn.add 16, ?_⟩
  show (if s ≥ x.size then _ else match (Except.ok (x.getD s 0 == 46, sn.add 16) : Except String (Bool × Seen)) with
    | .error why => _
    | .ok (false, seen) => _
    | .ok (true, seen) => _) = _
  rw [if_neg (Nat.not_le.mpr h1), h2]
  rfl
theorem s1_lit' {x : Array Nat} {s : Nat} {first ma : Bool} {sn : Seen} (h : ¬ (s < x.size ∧ x.getD s 0 = 46)) : ∃ sn', (at1 x s 7 s s first ma sn).step = no1 x s 7 s s first ma sn' := by
  refine ⟨sn.add 16, ?_⟩
  show (if s ≥ x.size then _ else match (Except.ok (x.getD s 0 == 46, sn.add 16) : Except String (Bool × Seen)) with
    | .error why => _
    | .ok (false, seen) => _
    | .ok (true, seen) => _) = _
  by_cases h1 : s < x.size
  · rw [if_neg (Nat.not_le.mpr h1)]
    have h2 : (x.getD s 0 == 46) = false := beq_eq_false_iff_ne.mpr fun e => h ⟨h1, e⟩
    rw [h2]
    rfl
  · rw [if_pos (Nat.not_lt.mp h1)]
    rfl
theorem s1_end {x : Array Nat} {s : Nat} {first ma : Bool} {sn : Seen} : ∃ sn', (at1 x s 9 (s + 1) s first ma sn).step = yes1 x s 9 (s + 1) (s + 1) first ma sn' := by
  refine ⟨sn.add 1, ?_⟩
  show (if (first && ((false && s + 1 != x.size) || (ma && s + 1 == s))) = true then _ else _) = _
  have : (s + 1 == s) = false := beq_eq_false_iff_ne.mpr (by omega)
  rw [this]
  simp only [Bool.false_and, Bool.and_false, Bool.or_false, Bool.false_eq_true, if_false]
  rfl
theorem s1_win {x : Array Nat} {s p h : Nat} {first ma : Bool} {sn : Seen} : ∃ m : M, ((yes1 x s 9 p h first ma sn).step).step = m ∧ m.outcome = some .matched ∧ m.start = s ∧ m.handed = h := ⟨_, rfl, rfl, rfl, rfl⟩
theorem s1_next {x : Array Nat} {s pc p h : Nat} {first ma : Bool} {sn : Seen} (hs : s < x.size) : (no1 x s pc p h first ma sn).step = at1 x (s + 1) 5 (s + 1) (s + 1) false false sn := by
  show (if s < x.size then _ else _) = _
  rw [if_pos hs]
  rfl
theorem s1_lose {x : Array Nat} {s pc p h : Nat} {first ma : Bool} {sn : Seen} (hs : ¬ s < x.size) : ∃ m₁ m : M, (no1 x s pc p h first ma sn).step = m₁ ∧ m₁.outcome = none ∧ m₁.step = m ∧ m.outcome = some .failed := by
  have : (no1 x s pc p h first ma sn).step = { no1 x s 5 s h first ma sn with frames := [], weight := 0 } := by
    show (if s < x.size then _ else _) = _
    rw [if_neg hs]
    rfl
  exact ⟨_, _, this, rfl, rfl, rfl⟩

/-! many steps -/
theorem runFor_out {n : Nat} {m : M} (h : m.outcome.isSome = true) : M.runFor n m = m := by
  cases n with
  | zero => rfl
  | succ n => unfold M.runFor; rw [h]; rfl
theorem runFor_step {n : Nat} {m : M} (h : m.outcome = none) : M.runFor (n + 1) m = M.runFor n m.step := by
  show (if m.outcome.isSome = true then m else M.runFor n m.step) = _
  rw [h]; rfl
theorem runFor_add : ∀ (a b : Nat) (m : M), M.runFor (a + b) m = M.runFor b (M.runFor a m)
  | 0, b, m => by rw [Nat.zero_add]; rfl
  | a + 1, b, m => by
    rw [show a + 1 + b = (a + b) + 1 by omega]
    cases h : m.outcome with
    | none => rw [runFor_step h, runFor_step h, runFor_add a b]
    | some o => rw [runFor_out (by rw [h]; rfl), runFor_out (n := a + 1) (by rw [h]; rfl), runFor_out (by rw [h]; rfl)]

/-- within N steps the machine ends in o -/
noncomputable def EndsIn (N : Nat) (m : M) (P : M → Prop) : Prop := ∃ n, n ≤ N ∧ (M.runFor n m).outcome.isSome = true ∧ P (M.runFor n m)
theorem EndsIn.step {N : Nat} {m m' : M} {P : M → Prop} (h0 : m.outcome = none) (e : m.step = m') (h : EndsIn N m' P) : EndsIn (N + 1) m P := by
  obtain ⟨n, a, b, c⟩ := h
  exact ⟨n + 1, by omega, by rw [runFor_step h0, e]; exact b, by rw [runFor_step h0, e]; exact c⟩
theorem EndsIn.done {N : Nat} {m : M} {P : M → Prop} (h0 : m.outcome.isSome = true) (h : P m) : EndsIn N m P := ⟨0, Nat.zero_le _, h0, h⟩
theorem EndsIn.le {N N' : Nat} {m : M} {P : M → Prop} (h : EndsIn N m P) (hn : N ≤ N') : EndsIn N' m P := let ⟨n, a, b⟩ := h; ⟨n, Nat.le_trans a hn, b⟩

/-- the first place from s on where a line begins with a dot -/
noncomputable def hit1 (x : Array Nat) (s : Nat) : Bool := (s == 0 || x.getD (s - 1) 0 == 10) && (decide (s < x.size) && x.getD s 0 == 46)
noncomputable def find1 (x : Array Nat) : Nat → Nat → Option Nat
  | 0, s => if hit1 x s then some s else none
  | k + 1, s => if hit1 x s then some s else find1 x k (s + 1)
/-- what a search gives -/
noncomputable def Got (o : Option (Nat × Nat)) (m : M) : Prop := match o with
  | some (b, e) => m.outcome = some .matched ∧ m.start = b ∧ m.handed = e
  | none => m.outcome = some .failed

theorem run1_hit {x : Array Nat} {s : Nat} {first ma : Bool} {sn : Seen} (h : hit1 x s = true) : EndsIn 6 (at1 x s 5 s s first ma sn) (Got (some (s, s + 1))) := by
  unfold hit1 at h
  simp only [Bool.and_eq_true, decide_eq_true_eq, beq_iff_eq] at h
  obtain ⟨sn1, e1⟩ := s1_at (x := x) (s := s) (first := first) (ma := ma) (sn := sn) h.1
  obtain ⟨sn2, e2⟩ := s1_lit (first := first) (ma := ma) (sn := sn1) h.2.1 h.2.2
  obtain ⟨sn3, e3⟩ := s1_end (x := x) (s := s) (first := first) (ma := ma) (sn := sn2)
  obtain ⟨m, e4, e5, e6, e7⟩ := s1_win (x := x) (s := s) (p := s + 1) (h := s + 1) (first := first) (ma := ma) (sn := sn3)
  refine .step rfl e1 (.step rfl e2 (.step rfl e3 (.step rfl rfl (.step rfl e4 (.done (by rw [e5]; rfl) ⟨e5, e6, e7⟩)))))
theorem run1_no {x : Array Nat} {s : Nat} {first ma : Bool} {sn : Seen} {P : M → Prop} {N : Nat} (h : hit1 x s = false) (next : ∀ pc sn', EndsIn N (no1 x s pc s s first ma sn') P) : EndsIn (N + 2) (at1 x s 5 s s first ma sn) P := by
  by_cases h1 : (s == 0 || x.getD (s - 1) 0 == 10) = true
  · obtain ⟨sn1, e1⟩ := s1_at (x := x) (s := s) (first := first) (ma := ma) (sn := sn) h1
    have h2 : ¬ (s < x.size ∧ x.getD s 0 = 46) := fun ⟨a, b⟩ => by
      unfold hit1 at h
      rw [h1, decide_eq_true a, beq_iff_eq.mpr b] at h
      cases h
    obtain ⟨sn2, e2⟩ := s1_lit' (first := first) (ma := ma) (sn := sn1) h2
    exact .step rfl e1 (.step rfl e2 (next _ _))
  · have h1 : (s == 0 || x.getD (s - 1) 0 == 10) = false := by simpa using h1
    obtain ⟨sn1, e1⟩ := s1_at' (x := x) (s := s) (first := first) (ma := ma) (sn := sn) h1
    exact (EndsIn.step rfl e1 (next _ _)).le (Nat.le_succ _)
theorem run1 {x : Array Nat} : ∀ (k s : Nat) (first ma : Bool) (sn : Seen), x.size - s = k → s ≤ x.size → EndsIn (6 + 3 * k) (at1 x s 5 s s first ma sn) (Got ((find1 x k s).map fun p => (p, p + 1)))
  | 0, s, first, ma, sn, hk, hs => by
    unfold find1
    cases h : hit1 x s with
    | true => exact run1_hit h
    | false =>
      refine (run1_no (N := 2) h fun pc sn' => ?_).le (by omega)
      obtain ⟨m₁, m, e1, e2, e3, e4⟩ := s1_lose (x := x) (s := s) (pc := pc) (p := s) (h := s) (first := first) (ma := ma) (sn := sn') (by omega)
      exact .step rfl e1 (.step e2 e3 (.done (by rw [e4]; rfl) e4))
  | k + 1, s, first, ma, sn, hk, hs => by
    unfold find1
    cases h : hit1 x s with
    | true => exact (run1_hit h).le (by omega)
    | false =>
      refine (run1_no (N := 6 + 3 * k + 1) h fun pc sn' => ?_).le (by omega)
      exact .step rfl (s1_next (by omega)) (run1 k (s + 1) false false sn' (by omega) (by omega))

theorem find1_past {x : Array Nat} : ∀ (k s : Nat), x.size ≤ s → find1 x k s = none
  | 0, s, h => by
    unfold find1 hit1
    rw [decide_eq_false (Nat.not_lt.mpr h)]
    simp
  | k + 1, s, h => by
    unfold find1 hit1
    rw [decide_eq_false (Nat.not_lt.mpr h)]
    simp only [Bool.false_and, Bool.and_false, Bool.false_eq_true, if_false]
    exact find1_past k (s + 1) (by omega)
theorem search1 {x : Array Nat} {s : Nat} {must : Bool} (hs : s ≤ x.size) : EndsIn (6 + 3 * (x.size - s)) (forSearch code1 x 0 s x.size must) (Got ((find1 x (x.size - s) s).map fun p => (p, p + 1))) := by
  by_cases h : s < x.size
  · have e : forSearch code1 x 0 s x.size must = at1 x s 5 s s true must (({} : Seen).add 14) := by
      show (if (decide (s > x.size) || decide (x.size - s < 1)) = true then _ else _) = _
      rw [if_neg (by simp; omega)]
      rfl
    rw [e]
    exact run1 _ s true must _ rfl hs
  · have hs' : s = x.size := by omega
    rw [find1_past _ _ (by omega)]
    obtain ⟨m₀, h0, h1, h2⟩ : ∃ m₀ : M, forSearch code1 x 0 s x.size must = m₀ ∧ m₀.outcome = none ∧ (m₀.step).outcome = some .failed := by
      refine ⟨_, rfl, ?_, ?_⟩
      · show (if (decide (s > x.size) || decide (x.size - s < 1)) = true then _ else _ : M).outcome = none
        rw [if_pos (by simp; omega)]
        rfl
      · show M.outcome (M.step (if (decide (s > x.size) || decide (x.size - s < 1)) = true then _ else _ : M)) = some .failed
        rw [if_pos (by simp; omega)]
        rfl
    rw [h0]
    exact (EndsIn.step (N := 0) h1 rfl (.done (by rw [h2]; rfl) h2)).le (by omega)
end Mine
end

section
open PySem PySem.Sre
set_option Elab.async false
set_option linter.unusedVariables false
namespace Mine
noncomputable def code2 : Array Nat := #[14, 9, 4, 1, 2, 16, 10, 16, 13, 0, 7, 7, 16, 13, 16, 10, 15, 18, 5, 16, 10, 15, 13, 11, 16, 13, 5, 5, 0, 16, 10, 1, 15, 2, 0, 1]
/-- at pc, the text at p, with frames fs -/
noncomputable def at2 (x : Array Nat) (s pc p hd : Nat) (outer : Bool) (fs : List Sre.Frame) (wt : Nat) (sn : Seen) : M :=
  { code := code2, text := x, lim := x.size, start := s, lastStart := x.size, mustAdvance := false, pc := pc, pos := p, handed := hd, outermost := outer, marks := #[], lastmark := -1, lastindex := -1, frames := fs, weight := wt, seen := sn }
noncomputable def ans2 (b : Bool) (x : Array Nat) (s pc p hd : Nat) (outer : Bool) (fs : List Sre.Frame) (wt : Nat) (sn : Seen) : M := { at2 x s pc p hd outer fs wt sn with answer := some b }
noncomputable def f0 (s : Nat) (first : Bool) : Sre.Frame := { wait := .nextStart, pc := 10, pos := s, outermost := first }
noncomputable def fB (s pc : Nat) (first : Bool) : Sre.Frame := { wait := .nextBranch, pc := pc, pos := s, outermost := first, kept := { lastmark := -1, lastindex := -1, whole := false, marks := #[] } }
noncomputable def fN (p : Nat) (first : Bool) : Sre.Frame := { wait := .lookNot, pc := 26, pos := p, outermost := first, kept := { lastmark := -1, lastindex := -1, whole := false, marks := #[] } }

section
variable {x : Array Nat} {s p hd wt : Nat} {o : Bool} {fs : List Sre.Frame} {sn : Seen}
/-- a literal that is met, one that is not -/
theorem lit2_yes (pc c : Nat) (h1 : p < x.size) (h2 : x.getD p 0 = c)
    (hx : ∀ (q : Bool), (at2 x s pc p hd o fs wt sn).step = (if p ≥ x.size then ({ at2 x s pc p hd o fs wt (sn.add 16) with answer := some false } : M) else match (Except.ok (x.getD p 0 == c, sn.add 16) : Except String (Bool × Seen)) with
      | .error why => (at2 x s pc p hd o fs wt (sn.add 16)).stick why
      | .ok (false, seen) => ({ at2 x s pc p hd o fs wt (sn.add 16) with seen := seen, answer := some false } : M)
      | .ok (true, seen) => ({ at2 x s pc p hd o fs wt (sn.add 16) with seen := seen, pc := pc + 2, pos := p + 1 } : M))) :
    (at2 x s pc p hd o fs wt sn).step = at2 x s (pc + 2) (p + 1) hd o fs wt (sn.add 16) := by
  rw [hx true, if_neg (Nat.not_le.mpr h1), h2, beq_self_eq_true]
  rfl
theorem lit2_no (pc c : Nat) (h : ¬ (p < x.size ∧ x.getD p 0 = c))
    (hx : ∀ (q : Bool), (at2 x s pc p hd o fs wt sn).step = (if p ≥ x.size then ({ at2 x s pc p hd o fs wt (sn.add 16) with answer := some false } : M) else match (Except.ok (x.getD p 0 == c, sn.add 16) : Except String (Bool × Seen)) with
      | .error why => (at2 x s pc p hd o fs wt (sn.add 16)).stick why
      | .ok (false, seen) => ({ at2 x s pc p hd o fs wt (sn.add 16) with seen := seen, answer := some false } : M)
      | .ok (true, seen) => ({ at2 x s pc p hd o fs wt (sn.add 16) with seen := seen, pc := pc + 2, pos := p + 1 } : M))) :
    (at2 x s pc p hd o fs wt sn).step = ans2 false x s pc p hd o fs wt (sn.add 16) := by
  rw [hx true]
  by_cases h1 : p < x.size
  · rw [if_neg (Nat.not_le.mpr h1)]
    have h2 : (x.getD p 0 == c) = false := beq_eq_false_iff_ne.mpr fun e => h ⟨h1, e⟩
    rw [h2]
    rfl
  · rw [if_pos (Nat.not_lt.mp h1)]
    rfl
end

/-- from the attempt at a sign that ends a line: the match's end -/
theorem run2_hit {x : Array Nat} {s : Nat} {first : Bool} {sn : Seen} (hs : s < x.size) (hc : x.getD s 0 = 10 ∨ x.getD s 0 = 13) :
    EndsIn 30 (at2 x s 10 s s first [f0 s first] 1 sn) (Got (some (s, if x.getD s 0 = 13 ∧ s + 1 < x.size ∧ x.getD (s + 1) 0 = 10 then s + 2 else s + 1))) := by
  -- the first alternative
  refine .step (m' := at2 x s 12 s s first [fB s 11 first, f0 s first] 2 (sn.add 7)) rfl rfl ?_
  by_cases h13 : x.getD s 0 = 13
  · refine .step rfl (lit2_yes 12 13 hs h13 fun q => rfl) ?_
    by_cases h10 : s + 1 < x.size ∧ x.getD (s + 1) 0 = 10
    · refine .step rfl (lit2_yes 14 10 h10.1 h10.2 fun q => rfl) ?_
      rw [if_pos ⟨h13, h10.1, h10.2⟩]
      refine .step rfl rfl (.step rfl (m' := ans2 true x s 35 (s + 2) (s + 2) first [fB s 11 first, f0 s first] 2 _) (by cases first <;> rfl) (.step rfl rfl (.step rfl rfl (.step rfl rfl (.done rfl ⟨rfl, rfl, rfl⟩)))))
    · rw [if_neg (fun h => h10 h.2)]
      refine .step rfl (lit2_no 14 10 h10 fun q => rfl) ?_
      refine .step (m' := at2 x s 19 s s first [fB s 18 first, f0 s first] 2 _) rfl rfl ?_
      refine .step rfl (lit2_no 19 10 (fun h => by rw [h13] at h; omega) fun q => rfl) ?_
      refine .step (m' := at2 x s 24 s s first [fB s 23 first, f0 s first] 2 _) rfl rfl ?_
      refine .step rfl (lit2_yes 24 13 hs h13 fun q => rfl) ?_
      refine .step (m' := at2 x s 29 (s + 1) (s + 1) false [fN (s + 1) first, fB s 23 first, f0 s first] 3 _) rfl rfl ?_
      refine .step rfl (lit2_no 29 10 h10 fun q => rfl) ?_
      refine .step (m' := at2 x s 32 (s + 1) (s + 1) first [fB s 23 first, f0 s first] 2 _) rfl rfl ?_
      refine .step rfl rfl (.step rfl (m' := ans2 true x s 35 (s + 1) (s + 1) first [fB s 23 first, f0 s first] 2 _) (by cases first <;> rfl) (.step rfl rfl (.step rfl rfl (.step rfl rfl (.done rfl ⟨rfl, rfl, rfl⟩)))))
  · have h10 : x.getD s 0 = 10 := hc.resolve_right h13
    rw [if_neg (fun h => h13 h.1)]
    refine .step rfl (lit2_no 12 13 (fun h => h13 h.2) fun q => rfl) ?_
    refine .step (m' := at2 x s 19 s s first [fB s 18 first, f0 s first] 2 _) rfl rfl ?_
    refine .step rfl (lit2_yes 19 10 hs h10 fun q => rfl) ?_
    refine .step rfl rfl (.step rfl (m' := ans2 true x s 35 (s + 1) (s + 1) first [fB s 18 first, f0 s first] 2 _) (by cases first <;> rfl) (.step rfl rfl (.step rfl rfl (.step rfl rfl (.done rfl ⟨rfl, rfl, rfl⟩)))))

noncomputable def isEnd (c : Nat) : Bool := c == 10 || c == 13
theorem set2 (c : Nat) (sn : Seen) : ∃ sn', inSet code2 c code2.size 5 true sn = .ok (isEnd c, sn') := by
  unfold isEnd
  have e : inSet code2 c code2.size 5 true sn = (if (c == 10) = true then .ok (true, sn.add 16) else if (c == 13) = true then .ok (true, (sn.add 16).add 16) else .ok (false, ((sn.add 16).add 16).add 0)) := rfl
  rw [e]
  cases h1 : c == 10
  · cases h2 : c == 13
    · exact ⟨_, rfl⟩
    · exact ⟨_, rfl⟩
  · exact ⟨_, rfl⟩
/-- the first end of a line from s on -/
noncomputable def find2 (x : Array Nat) : Nat → Nat → Option Nat
  | 0, _ => none
  | k + 1, s => if s < x.size ∧ isEnd (x.getD s 0) = true then some s else find2 x k (s + 1)
theorem find2_hit {x : Array Nat} : ∀ (k s p : Nat), find2 x k s = some p → s ≤ p ∧ p < x.size ∧ isEnd (x.getD p 0) = true
  | k + 1, s, p, h => by
    unfold find2 at h
    split at h
    · rename_i q
      cases h
      exact ⟨Nat.le_refl _, q⟩
    · obtain ⟨a, b⟩ := find2_hit k (s + 1) p h
      exact ⟨by omega, b⟩
theorem admitted2 (m : M) (hc : m.code = code2) (hl : m.lim = m.text.size) : ∀ (k s : Nat) (sn : Seen), m.text.size - s < k → ∃ sn', M.admitted m k s sn = .ok (find2 m.text k s, sn')
  | k + 1, s, sn, h => by
    unfold M.admitted find2
    rw [hl, hc]
    by_cases hs : s ≥ m.text.size
    · rw [if_pos hs, if_neg (fun q => absurd q.1 (Nat.not_lt.mpr hs))]
      have : find2 m.text k (s + 1) = none := by
        cases q : find2 m.text k (s + 1) with
        | none => rfl
        | some p => have := find2_hit _ _ _ q; omega
      rw [this]
      exact ⟨_, rfl⟩
    · rw [if_neg hs]
      obtain ⟨sn', e⟩ := set2 (m.text.getD s 0) sn
      rw [e]
      cases q : isEnd (m.text.getD s 0)
      · rw [if_neg (by simp)]
        exact admitted2 m hc hl k (s + 1) sn' (by omega)
      · rw [if_pos ⟨by omega, rfl⟩]
        exact ⟨_, rfl⟩
theorem search2 {x : Array Nat} {s : Nat} {must : Bool} (hs : s ≤ x.size) :
    EndsIn 30 (forSearch code2 x 0 s x.size must) (Got ((find2 x (x.size + 1 - s) s).map fun p => (p, if x.getD p 0 = 13 ∧ p + 1 < x.size ∧ x.getD (p + 1) 0 = 10 then p + 2 else p + 1))) := by
  have lose : ∀ m : M, m.outcome = none → (m.step).outcome = some .failed → EndsIn 30 m (Got none) := fun m h1 h2 => (EndsIn.step (N := 0) h1 rfl (.done (by rw [h2]; rfl) h2)).le (by omega)
  by_cases h : s < x.size
  · obtain ⟨m, e, hc, ht, hl, hm⟩ : ∃ m : M, forSearch code2 x 0 s x.size must = m.attemptFrom s true ∧ m.code = code2 ∧ m.text = x ∧ m.lim = x.size ∧ m = { code := code2, text := x, lim := x.size, start := s, lastStart := x.size, mustAdvance := must, pc := 10, pos := s, handed := s, marks := #[], seen := ({} : Seen).add 14 } := by
      refine ⟨_, ?_, rfl, rfl, rfl, rfl⟩
      show (if (decide (s > x.size) || decide (x.size - s < 1)) = true then _ else _) = _
      rw [if_neg (by simp; omega)]
      rfl
    rw [e]
    unfold M.attemptFrom
    have hf : m.hasFirstSet = true := by unfold M.hasFirstSet; rw [hc]; rfl
    rw [hf]
    obtain ⟨sn', ea⟩ := admitted2 m hc (by rw [hl, ht]) (m.lim + 1 - s) s m.seen (by rw [hl, ht]; omega)
    rw [ea, ht, hl]
    simp only [Bool.not_true, Bool.false_eq_true, if_false]
    cases q : find2 x (x.size + 1 - s) s with
    | none =>
      rw [hm]
      exact lose _ rfl rfl
    | some p =>
      obtain ⟨h1, h2, h3⟩ := find2_hit _ _ _ q
      have hc' : x.getD p 0 = 10 ∨ x.getD p 0 = 13 := by unfold isEnd at h3; simpa using h3
      rw [hm]
      exact run2_hit (first := true) (sn := sn') h2 hc'
  · have hs' : s = x.size := by omega
    have : find2 x (x.size + 1 - s) s = none := by
      cases q : find2 x (x.size + 1 - s) s with
      | none => rfl
      | some p => have := find2_hit _ _ _ q; omega
    rw [this]
    refine lose _ ?_ ?_
    · show (if (decide (s > x.size) || decide (x.size - s < 1)) = true then _ else _ : M).outcome = none
      rw [if_pos (by simp; omega)]
      rfl
    · show M.outcome (M.step (if (decide (s > x.size) || decide (x.size - s < 1)) = true then _ else _ : M)) = some .failed
      rw [if_pos (by simp; omega)]
      rfl
end Mine
end

section
open PySem PySem.W PyProof.Rows
set_option Elab.async false
set_option linter.unusedVariables false
namespace Mine

/-- v is the value a, its token aside -/
noncomputable def Vm : Value → Value → Prop
  | .int i _, v => ∃ t, v = .int i t
  | .str x _, v => ∃ t, v = .str x t
  | a, v => v = a
noncomputable abbrev I (i : Int) : Value := .int i 0
noncomputable abbrev S (x : Str) : Value := .str x 0
theorem Vm.int {i : Int} {t u : Tok} : Vm (.int i t) (.int i u) := ⟨u, rfl⟩
theorem Vm.str {x : Str} {t u : Tok} : Vm (.str x t) (.str x u) := ⟨u, rfl⟩
theorem Vm.refl (v : Value) : Vm v v := by cases v <;> first | exact ⟨_, rfl⟩ | rfl

noncomputable abbrev Ent := Addr × List Value
noncomputable def LstAt (h : Heap) (a : Addr) (xs : List Value) : Prop := ∃ vs, h.PlainList a vs ∧ Paired Vm xs vs.toList
noncomputable def RdAt (h : Heap) (a : Addr) (xs : List Value) : Prop := ∃ vs, h.IsList a vs ∧ Paired Vm xs vs.toList
theorem LstAt.rd {h : Heap} {a : Addr} {xs : List Value} (x : LstAt h a xs) : RdAt h a xs := let ⟨vs, p, q⟩ := x; ⟨vs, p.isList, q⟩
theorem LstAt.at' {h h' : Heap} {a : Addr} {xs : List Value} (x : LstAt h a xs) (k : ∀ o, h.get? a = some o → h'.get? a = some o) : LstAt h' a xs := let ⟨vs, p, q⟩ := x; ⟨vs, p.at k, q⟩
theorem RdAt.at' {h h' : Heap} {a : Addr} {xs : List Value} (x : RdAt h a xs) (k : ∀ o, h.get? a = some o → h'.get? a = some o) : RdAt h' a xs :=
  let ⟨vs, ⟨o, e, r⟩, q⟩ := x; ⟨vs, ⟨o, k _ e, r⟩, q⟩
theorem LstAt.lt {h : Heap} {a : Addr} {xs : List Value} (x : LstAt h a xs) : a < h.objs.size := let ⟨_, ⟨_, e⟩, _⟩ := x; Heap.lt_size e
theorem RdAt.lt {h : Heap} {a : Addr} {xs : List Value} (x : RdAt h a xs) : a < h.objs.size := let ⟨_, ⟨_, e, _⟩, _⟩ := x; Heap.lt_size e

theorem Paired.len {α β : Type} {G : α → β → Prop} : ∀ {l₁ : List α} {l₂ : List β}, Paired G l₁ l₂ → l₁.length = l₂.length
  | _, _, .nil => rfl
  | _, _, .cons _ r => congrArg (· + 1) (Paired.len r)
theorem Paired.get {α β : Type} {G : α → β → Prop} : ∀ {l₁ : List α} {l₂ : List β}, Paired G l₁ l₂ → ∀ {i : Nat} {a : α}, l₁[i]? = some a → ∃ b, l₂[i]? = some b ∧ G a b
  | _, _, .nil, i, a, h => by simp at h
  | _, _, .cons (a := x) (b := y) p r, 0, a, h => by simp at h; subst h; exact ⟨y, rfl, p⟩
  | _, _, .cons p r, i + 1, a, h => by simpa using Paired.get r (by simpa using h)
theorem Paired.app {α β : Type} {G : α → β → Prop} : ∀ {l₁ : List α} {l₂ : List β} {m₁ : List α} {m₂ : List β}, Paired G l₁ l₂ → Paired G m₁ m₂ → Paired G (l₁ ++ m₁) (l₂ ++ m₂)
  | _, _, _, _, .nil, q => q
  | _, _, _, _, .cons p r, q => .cons p (Paired.app r q)
theorem Paired.set {α β : Type} {G : α → β → Prop} : ∀ {l₁ : List α} {l₂ : List β}, Paired G l₁ l₂ → ∀ (i : Nat) {a : α} {b : β}, G a b → Paired G (l₁.set i a) (l₂.set i b)
  | _, _, .nil, i, a, b, h => by simpa using Paired.nil
  | _, _, .cons p r, 0, a, b, h => .cons h r
  | _, _, .cons p r, i + 1, a, b, h => .cons p (Paired.set r i h)
/-- the ground that a frame stands on -/
structure GB (mg mb : Str → Option Value) (h : Heap) : Prop where
  g : h.Ns mainGlobals mg
  b : h.Ns builtinsNs mb
  lim : h.NoLimit
  low : sysModules < h.objs.size
theorem GB.keeps {mg mb : Str → Option Value} {h h' : Heap} (x : GB mg mb h) (k : ∀ b o, h.get? b = some o → h'.get? b = some o) (hs : h.objs.size ≤ h'.objs.size) : GB mg mb h' :=
  ⟨x.g.keeps k, x.b.keeps k, x.lim.keeps k, Nat.lt_of_lt_of_le x.low hs⟩

structure EnvOk (mg mb : Str → Option Value) (K : Shared) (env : Env) (nm : List (Str × NameKind)) (oc : Bool) : Prop where
  kind : env.scope.kind = .function
  names : env.scope.names = nm
  nd : (nm.map (·.1)).Nodup
  glob : env.globals = mainGlobals
  blt : env.builtins = builtinsNs
  gb : GB mg mb K.heap
  own : oc = true → ∀ x c, nm.lookup x = some .cell → env.cells.lookup x = some c → K.heap.objs.size ≤ c
  inj : oc = true → ∀ x y c, env.cells.lookup x = some c → env.cells.lookup y = some c → x = y

theorem lookup_of_get : ∀ {nm : List (Str × NameKind)} {i : Nat} {x : Str} {k : NameKind}, (nm.map (·.1)).Nodup → nm[i]? = some (x, k) → nm.lookup x = some k
  | [], i, x, k, _, h => by simp at h
  | (y, l) :: r, 0, x, k, _, h => by
    simp at h
    obtain ⟨rfl, rfl⟩ := h
    simp
  | (y, l) :: r, i + 1, x, k, hn, h => by
    simp only [List.map_cons, List.nodup_cons] at hn
    have h' : r[i]? = some (x, k) := by simpa using h
    have hm : x ∈ r.map (·.1) := List.mem_map.mpr ⟨_, List.mem_of_getElem? h', rfl⟩
    have hne : (x == y) = false := beq_eq_false_iff_ne.mpr fun e => hn.1 (e ▸ hm)
    rw [List.lookup_cons, hne]
    exact lookup_of_get hn.2 h'
theorem name_inj {nm : List (Str × NameKind)} {i j : Nat} {x : Str} {k l : NameKind} (hn : (nm.map (·.1)).Nodup) (hi : nm[i]? = some (x, k)) (hj : nm[j]? = some (x, l)) : i = j := by
  have h1 : (nm.map (·.1))[i]? = some x := by rw [List.getElem?_map, hi]; rfl
  have h2 : (nm.map (·.1))[j]? = some x := by rw [List.getElem?_map, hj]; rfl
  exact (List.getElem?_inj (List.getElem?_eq_some_iff.mp h1).1 hn).mp (h1.trans h2.symm)

theorem EnvOk.kindOf {mg mb K env nm oc} (x : EnvOk mg mb K env nm oc) {i : Nat} {n : Str} {k : NameKind} (h : nm[i]? = some (n, k)) : env.kindOf n = some k := by
  unfold Env.kindOf; rw [x.names]; exact lookup_of_get x.nd h

/-- a frame in its course: F its names' values (by their place), H the lists it has made, P what must stay -/
structure St (mg mb : Str → Option Value) (K : Shared) (P : List (Addr × Obj)) (env : Env) (nm : List (Str × NameKind)) (oc : Bool) (F : List (Option Value)) (H : List Ent) (s : Shared) : Prop where
  ok : EnvOk mg mb K env nm oc
  fr : ∃ m, Fr K.heap env.locals s.heap m ∧ ∀ (i : Nat) (x : Str) (a : Value), nm[i]? = some (x, NameKind.local) → F[i]? = some (some a) → ∃ v, m x = some v ∧ Vm a v
  cl : ∀ (i : Nat) (x : Str) (k : NameKind), nm[i]? = some (x, k) → k = NameKind.cell ∨ k = NameKind.free → ∃ c ov, env.cells.lookup x = some c ∧ s.heap.IsCell c ov ∧ ∀ a, F[i]? = some (some a) → ∃ v, ov = some v ∧ Vm a v
  led : ∀ e ∈ H, LstAt s.heap e.1 e.2 ∧ K.heap.objs.size ≤ e.1
  nod : (H.map (·.1)).Nodup
  pro : ∀ p ∈ P, s.heap.get? p.1 = some p.2 ∧ p.1 ≠ env.locals ∧ (∀ e ∈ H, e.1 ≠ p.1) ∧ (oc = true → ∀ (i : Nat) (x : Str) (c : Addr), nm[i]? = some (x, NameKind.cell) → env.cells.lookup x = some c → c ≠ p.1)
  gens : s.gens = #[]
  os : s.os = K.os

noncomputable def Room (n : Nat) (A : Around) : Prop := A.handled = none ∧ A.depth + n ≤ 990 ∧ A.units + n ≤ 9800
theorem Room.in1 {n : Nat} {A : Around} (h : Room (n + 1) A) : Room n A.in1 := ⟨h.1, by show A.depth + n ≤ 990; have := h.2.1; omega, by show A.units + 1 + n ≤ 9800; have := h.2.2; omega⟩
theorem Room.deeper {n : Nat} {A : Around} {env : Env} (h : Room (n + 3) A) : Room n (A.deeper env) := ⟨h.1, by show A.depth + 1 + n ≤ 990; have := h.2.1; omega, by show A.units + 3 + n ≤ 9800; have := h.2.2; omega⟩
theorem Room.le {n m : Nat} {A : Around} (h : Room n A) (hm : m ≤ n) : Room m A := ⟨h.1, by have := h.2.1; omega, by have := h.2.2; omega⟩
theorem Room.lim {n : Nat} {A : Around} (h : Room n A) : A.depth < recursionLimit := by have := h.2.1; show A.depth < 1000; omega
/-- the tree m, from a frame's state (F, H), ends in Q -/
noncomputable def WX {α : Type} (prog : Program) (w : World) (n : Nat) (mg mb : Str → Option Value) (K : Shared) (env : Env) (nm : List (Str × NameKind)) (oc : Bool) (m : Sem α) (F : List (Option Value)) (H : List Ent) (Q : α → List (Option Value) → List Ent → Prop) : Prop :=
  ∀ A, Room n A → ∀ P s (E : Value → Shared → Prop) (R : α → Shared → Prop), St mg mb K P env nm oc F H s → (∀ r F' H' s', St mg mb K P env nm oc F' H' s' → Q r F' H' → R r s') → wpAny (model prog w) A m R E s

theorem WX.mono {α : Type} {prog : Program} {w : World} {n n' : Nat} {mg mb : Str → Option Value} {K : Shared} {env : Env} {nm : List (Str × NameKind)} {oc : Bool} {m : Sem α} {F : List (Option Value)} {H : List Ent} {Q Q' : α → List (Option Value) → List Ent → Prop}
    (h : WX prog w n mg mb K env nm oc m F H Q) (hq : ∀ r F' H', Q r F' H' → Q' r F' H') (hn : n ≤ n' := by omega) : WX prog w n' mg mb K env nm oc m F H Q' :=
  fun A hA P s E R st hR => h A (hA.le hn) P s E R st fun r F' H' s' st' q => hR r F' H' s' st' (hq r F' H' q)

section
variable {α β : Type} {prog : Program} {w : World} {n : Nat} {mg mb : Str → Option Value} {K : Shared} {env : Env} {nm : List (Str × NameKind)} {oc : Bool} {F : List (Option Value)} {H : List Ent} {P : List (Addr × Obj)} {s : Shared}

namespace St
theorem keep (x : St mg mb K P env nm oc F H s) : ∀ b o, K.heap.get? b = some o → s.heap.get? b = some o := let ⟨_, f, _⟩ := x.fr; f.keep
theorem size (x : St mg mb K P env nm oc F H s) : K.heap.objs.size ≤ s.heap.objs.size := by
  obtain ⟨m, f, _⟩ := x.fr
  exact Nat.le_of_lt (Nat.lt_of_le_of_lt f.above f.ns.lt)
theorem gbase (x : St mg mb K P env nm oc F H s) : GB mg mb s.heap := x.ok.gb.keeps x.keep x.size

/-- all stays, but for tokens and new objects -/
theorem kept (x : St mg mb K P env nm oc F H s) {s' : Shared} (k : ∀ b o, s.heap.get? b = some o → s'.heap.get? b = some o) (hg : s'.gens = #[]) (ho : s'.os = s.os) : St mg mb K P env nm oc F H s' := by
  refine ⟨x.ok, ?_, fun i n k' hn hk => ?_, fun e he => ⟨(x.led e he).1.at' fun o => k _ o, (x.led e he).2⟩, x.nod, fun p hp => ⟨k _ _ (x.pro p hp).1, (x.pro p hp).2⟩, hg, ho.trans x.os⟩
  · obtain ⟨m, f, g⟩ := x.fr
    exact ⟨m, ⟨f.ns.keeps k, fun b o e => k _ _ (f.keep b o e), f.above⟩, g⟩
  · obtain ⟨c, ov, h1, h2, h3⟩ := x.cl i n k' hn hk
    exact ⟨c, ov, h1, h2.keeps k, h3⟩
theorem tok (x : St mg mb K P env nm oc F H s) (t : Nat) : St mg mb K P env nm oc F H { s with toks := t } := x.kept (fun _ _ e => e) x.gens rfl

/-- fewer lists in view -/
theorem drop (x : St mg mb K P env nm oc F H s) {H' : List Ent} (h : H'.Sublist H) : St mg mb K P env nm oc F H' s :=
  ⟨x.ok, x.fr, x.cl, fun e he => x.led e (h.subset he), x.nod.sublist (h.map _), fun p hp => ⟨(x.pro p hp).1, (x.pro p hp).2.1, fun e he => (x.pro p hp).2.2.1 e (h.subset he), (x.pro p hp).2.2.2⟩, x.gens, x.os⟩
theorem perm (x : St mg mb K P env nm oc F H s) {H' : List Ent} (h : H'.Perm H) : St mg mb K P env nm oc F H' s :=
  ⟨x.ok, x.fr, x.cl, fun e he => x.led e (h.mem_iff.mp he), (h.map _).nodup_iff.mpr x.nod, fun p hp => ⟨(x.pro p hp).1, (x.pro p hp).2.1, fun e he => (x.pro p hp).2.2.1 e (h.mem_iff.mp he), (x.pro p hp).2.2.2⟩, x.gens, x.os⟩
/-- less known of the names -/
theorem less (x : St mg mb K P env nm oc F H s) {F' : List (Option Value)} (h : ∀ (i : Nat) (a : Value), F'[i]? = some (some a) → F[i]? = some (some a)) : St mg mb K P env nm oc F' H s := by
  obtain ⟨m, f, g⟩ := x.fr
  refine ⟨x.ok, ⟨m, f, fun i n a hn ha => g i n a hn (h i a ha)⟩, fun i n k hn hk => ?_, x.led, x.nod, x.pro, x.gens, x.os⟩
  obtain ⟨c, ov, h1, h2, h3⟩ := x.cl i n k hn hk
  exact ⟨c, ov, h1, h2, fun a ha => h3 a (h i a ha)⟩

/-- a new object that is a list -/
theorem newList (x : St mg mb K P env nm oc F H s) {vs : List Value} {xs : List Value} (hp : Paired Vm xs vs) :
    St mg mb K P env nm oc F (H ++ [(s.heap.objs.size, xs)]) { s with heap := s.heap.push { cls := .type "list", data := .seq vs.toArray } } := by
  have k : ∀ b o, s.heap.get? b = some o → (s.heap.push { cls := .type "list", data := .seq vs.toArray }).get? b = some o := fun b o e => Heap.get?_push_of_some _ e
  have y := x.kept (s' := { s with heap := s.heap.push { cls := .type "list", data := .seq vs.toArray } }) k x.gens rfl
  refine ⟨y.ok, y.fr, y.cl, fun e he => ?_, ?_, fun p hp' => ⟨(y.pro p hp').1, (y.pro p hp').2.1, fun e he => ?_, (y.pro p hp').2.2.2⟩, y.gens, y.os⟩
  · rcases List.mem_append.mp he with he | he
    · exact y.led e he
    · rw [List.mem_singleton.mp he]
      exact ⟨⟨vs.toArray, ⟨0, Heap.get?_push_size _ rfl⟩, by simpa using hp⟩, x.size⟩
  · rw [List.map_append, List.nodup_append]
    refine ⟨x.nod, by simp, fun a ha b hb e => ?_⟩
    simp only [List.map_cons, List.map_nil, List.mem_singleton] at hb
    obtain ⟨e', he', rfl⟩ := List.mem_map.mp ha
    have := (x.led e' he').1.lt
    rw [e, hb] at this
    exact Nat.lt_irrefl _ this
  · rcases List.mem_append.mp he with he | he
    · exact (y.pro p hp').2.2.1 e he
    · rw [List.mem_singleton.mp he]
      exact Nat.ne_of_gt (Heap.lt_size (x.pro p hp').1)

theorem kindne {e : Ent} (x : St mg mb K P env nm oc F H s) (he : e ∈ H) : e.1 ≠ env.locals := by
  obtain ⟨m, f, g⟩ := x.fr
  intro q
  obtain ⟨vs, ⟨k, e1⟩, _⟩ := (x.led e he).1
  obtain ⟨o, es, ep, e2, d, _⟩ := f.ns
  rw [q, e2] at e1
  cases e1
  cases d
theorem cellne {e : Ent} (x : St mg mb K P env nm oc F H s) (he : e ∈ H) {c : Addr} {ov : Option Value} (hc : s.heap.IsCell c ov) : e.1 ≠ c := by
  intro q
  obtain ⟨vs, ⟨k, e1⟩, _⟩ := (x.led e he).1
  obtain ⟨o, e2, d⟩ := hc
  rw [q, e2] at e1
  cases e1
  cases d
theorem cellneL (x : St mg mb K P env nm oc F H s) {c : Addr} {ov : Option Value} (hc : s.heap.IsCell c ov) : c ≠ env.locals := by
  obtain ⟨m, f, g⟩ := x.fr
  rintro rfl
  obtain ⟨o, e2, d⟩ := hc
  obtain ⟨o', es, ep, e3, d', _⟩ := f.ns
  rw [e2] at e3
  cases e3
  rw [d] at d'
  cases d'

/-- one local name is stored anew -/
theorem setLocal (x : St mg mb K P env nm oc F H s) {i : Nat} {n : Str} (hn : nm[i]? = some (n, NameKind.local)) {h' : Heap} {m : Str → Option Value} {a v : Value} (hv : Vm a v)
    (hm : ∀ (j : Nat) (y : Str) (b : Value), nm[j]? = some (y, NameKind.local) → F[j]? = some (some b) → ∃ u, m y = some u ∧ Vm b u)
    (hns : h'.Ns env.locals (fun y => if y = n then some v else m y)) (hs : Heap.SameBut env.locals s.heap h') (t : Nat) : St mg mb K P env nm oc (F.set i (some a)) H { s with heap := h', toks := t } := by
  obtain ⟨m₀, f, _⟩ := x.fr
  refine ⟨x.ok, ⟨_, f.set hns hs, fun j y b hj hb => ?_⟩, fun j y k hj hk => ?_, fun e he => ⟨(x.led e he).1.at' fun o e' => (hs.2 _ (x.kindne he)).trans e', (x.led e he).2⟩, x.nod,
    fun p hp => ⟨(hs.2 _ (x.pro p hp).2.1).trans (x.pro p hp).1, (x.pro p hp).2⟩, x.gens, x.os⟩
  · by_cases q : y = n
    · subst q
      have : i = j := name_inj x.ok.nd hn hj
      subst this
      by_cases hlt : i < F.length
      · rw [List.getElem?_set_self hlt] at hb
        cases hb
        exact ⟨v, by simp, hv⟩
      · rw [List.getElem?_eq_none (by rw [List.length_set]; omega)] at hb
        cases hb
    · have : i ≠ j := by
        rintro rfl
        rw [hn] at hj
        cases hj
        exact q rfl
      rw [List.getElem?_set_ne this] at hb
      obtain ⟨u, h1, h2⟩ := hm j y b hj hb
      exact ⟨u, by rw [if_neg q]; exact h1, h2⟩
  · obtain ⟨c, ov, h1, h2, h3⟩ := x.cl j y k hj hk
    have hne : i ≠ j := by
      rintro rfl
      rw [hn] at hj
      cases hj
      rcases hk with h | h <;> cases h
    exact ⟨c, ov, h1, h2.sameBut hs (x.cellneL h2), fun b hb => h3 b (by rwa [List.getElem?_set_ne hne] at hb)⟩

/-- one cell is stored anew -/
theorem setCell (x : St mg mb K P env nm true F H s) {i : Nat} {n : Str} (hn : nm[i]? = some (n, NameKind.cell)) {h' : Heap} {c : Addr} {a v : Value} {ov : Option Value} (hv : Vm a v) (hc : env.cells.lookup n = some c) (hc0 : s.heap.IsCell c ov)
    (hc' : h'.IsCell c (some v)) (hs : Heap.SameBut c s.heap h') : St mg mb K P env nm true (F.set i (some a)) H { s with heap := h' } := by
  obtain ⟨m₀, f, g⟩ := x.fr
  have hKc := x.ok.own rfl n c (lookup_of_get x.ok.nd hn) hc
  have hL := x.cellneL hc0
  refine ⟨x.ok, ⟨m₀, ⟨f.ns.sameBut hs (Ne.symm hL), fun b o e => (hs.2 b (Nat.ne_of_lt (Nat.lt_of_lt_of_le (Heap.lt_size e) hKc))).trans (f.keep b o e), f.above⟩, fun j y b hj hb => ?_⟩, fun j y k hj hk => ?_,
    fun e he => ⟨(x.led e he).1.at' fun o e' => (hs.2 _ (x.cellne he hc0)).trans e', (x.led e he).2⟩, x.nod, fun p hp => ⟨(hs.2 _ (Ne.symm ((x.pro p hp).2.2.2 rfl i n c hn hc))).trans (x.pro p hp).1, (x.pro p hp).2⟩, x.gens, x.os⟩
  · have hne : i ≠ j := by
      rintro rfl
      rw [hn] at hj
      cases hj
    exact g j y b hj (by rwa [List.getElem?_set_ne hne] at hb)
  · obtain ⟨c', ov', h1, h2, h3⟩ := x.cl j y k hj hk
    by_cases q : c' = c
    · subst q
      have e := x.ok.inj rfl n y c' hc h1
      subst e
      have := name_inj x.ok.nd hn hj
      subst this
      refine ⟨c', some v, h1, hc', fun b hb => ⟨v, rfl, ?_⟩⟩
      by_cases hlt : i < F.length
      · rw [List.getElem?_set_self hlt] at hb
        cases hb
        exact hv
      · rw [List.getElem?_eq_none (by rw [List.length_set]; omega)] at hb
        cases hb
    · have hne : i ≠ j := by
        rintro rfl
        rw [hn] at hj
        cases hj
        rw [hc] at h1
        cases h1
        exact q rfl
      exact ⟨c', ov', h1, h2.sameBut hs q, fun b hb => h3 b (by rwa [List.getElem?_set_ne hne] at hb)⟩

/-- a list of the frame's own is changed -/
theorem setList (x : St mg mb K P env nm oc F H s) {j : Nat} {a : Addr} {xs ys : List Value} (hj : H[j]? = some (a, xs)) {h' : Heap} (hl : LstAt h' a ys) (hs : Heap.SameBut a s.heap h') : St mg mb K P env nm oc F (H.set j (a, ys)) { s with heap := h' } := by
  have hmem : (a, xs) ∈ H := List.mem_of_getElem? hj
  obtain ⟨m, f, g⟩ := x.fr
  have hjl : j < H.length := (List.getElem?_eq_some_iff.mp hj).1
  have hmap : (H.set j (a, ys)).map (·.1) = H.map (·.1) := by
    rw [List.map_set]
    apply List.ext_getElem?
    intro i
    by_cases q : j = i
    · subst q
      rw [List.getElem?_set_self (by simpa using hjl), List.getElem?_map, hj]; rfl
    · rw [List.getElem?_set_ne q]
  have hmem' : ∀ e ∈ H.set j (a, ys), e = (a, ys) ∨ (e ∈ H ∧ e.1 ≠ a) := by
    intro e he
    obtain ⟨i, hi⟩ := List.mem_iff_getElem?.mp he
    by_cases q : j = i
    · subst q
      rw [List.getElem?_set_self hjl] at hi
      cases hi
      exact .inl rfl
    · rw [List.getElem?_set_ne q] at hi
      refine .inr ⟨List.mem_of_getElem? hi, fun e' => q ?_⟩
      have h1 : (H.map (·.1))[j]? = some a := by rw [List.getElem?_map, hj]; rfl
      have h2 : (H.map (·.1))[i]? = some a := by rw [List.getElem?_map, hi]; exact congrArg some e'
      exact (List.getElem?_inj (by simpa using hjl) x.nod).mp (h1.trans h2.symm)
  refine ⟨x.ok, ⟨m, ⟨f.ns.sameBut hs (Ne.symm (x.kindne hmem)), fun b o e => (hs.2 b (Nat.ne_of_lt (Nat.lt_of_lt_of_le (Heap.lt_size e) (x.led _ hmem).2))).trans (f.keep b o e), f.above⟩, g⟩, fun i y k hi hk => ?_,
    fun e he => ?_, by rw [hmap]; exact x.nod, fun p hp => ⟨(hs.2 _ (Ne.symm ((x.pro p hp).2.2.1 _ hmem))).trans (x.pro p hp).1, (x.pro p hp).2.1, fun e he => ?_, (x.pro p hp).2.2.2⟩, x.gens, x.os⟩
  · obtain ⟨c, ov, h1, h2, h3⟩ := x.cl i y k hi hk
    exact ⟨c, ov, h1, h2.sameBut hs (Ne.symm (x.cellne hmem h2)), h3⟩
  · rcases hmem' e he with rfl | ⟨h1, h2⟩
    · exact ⟨hl, (x.led _ hmem).2⟩
    · exact ⟨(x.led e h1).1.at' fun o e' => (hs.2 _ h2).trans e', (x.led e h1).2⟩
  · rcases hmem' e he with rfl | ⟨h1, h2⟩
    · exact (x.pro p hp).2.2.1 (a, xs) hmem
    · exact (x.pro p hp).2.2.1 e h1

/-- lists that something else has made join -/
theorem join (x : St mg mb K P env nm oc F H s) {H' : List Ent} {n0 : Nat} (hl : ∀ e ∈ H', LstAt s.heap e.1 e.2 ∧ n0 ≤ e.1) (hn : (H'.map (·.1)).Nodup) (h0 : K.heap.objs.size ≤ n0) (hH : ∀ e ∈ H, e.1 < n0) (hP : ∀ p ∈ P, p.1 < n0) : St mg mb K P env nm oc F (H ++ H') s := by
  refine ⟨x.ok, x.fr, x.cl, fun e he => ?_, ?_, fun p hp => ⟨(x.pro p hp).1, (x.pro p hp).2.1, fun e he => ?_, (x.pro p hp).2.2.2⟩, x.gens, x.os⟩
  · rcases List.mem_append.mp he with he | he
    · exact x.led e he
    · exact ⟨(hl e he).1, Nat.le_trans h0 (hl e he).2⟩
  · rw [List.map_append, List.nodup_append]
    refine ⟨x.nod, hn, fun a ha b hb e => ?_⟩
    obtain ⟨e1, h1, rfl⟩ := List.mem_map.mp ha
    obtain ⟨e2, h2, rfl⟩ := List.mem_map.mp hb
    exact absurd (hH e1 h1) (Nat.not_lt.mpr (e ▸ (hl e2 h2).2))
  · rcases List.mem_append.mp he with he | he
    · exact (x.pro p hp).2.2.1 e he
    · exact fun q => absurd (hP p hp) (Nat.not_lt.mpr (q ▸ (hl e he).2))
end St
end
end Mine
end

section
open PySem PySem.W PyProof.Rows
set_option Elab.async false
set_option linter.unusedVariables false
namespace Mine
section
variable {α β : Type} {prog : Program} {w : World} {n : Nat} {mg mb : Str → Option Value} {K : Shared} {env : Env} {nm : List (Str × NameKind)} {oc : Bool} {F : List (Option Value)} {H : List Ent}

/-- an expression, to a value and the lists there then are -/
noncomputable def WE (prog : Program) (w : World) (n : Nat) (mg mb : Str → Option Value) (K : Shared) (env : Env) (nm : List (Str × NameKind)) (oc : Bool) (m : Sem Value) (F : List (Option Value)) (H : List Ent) (Q : Value → List Ent → Prop) : Prop :=
  WX prog w n mg mb K env nm oc m F H fun v F' H' => F' = F ∧ ∃ a, Vm a v ∧ Q a H'
/-- a test -/
noncomputable def WT (prog : Program) (w : World) (n : Nat) (mg mb : Str → Option Value) (K : Shared) (env : Env) (nm : List (Str × NameKind)) (oc : Bool) (m : Sem Bool) (F : List (Option Value)) (H : List Ent) (Q : Bool → List Ent → Prop) : Prop :=
  WX prog w n mg mb K env nm oc m F H fun b F' H' => F' = F ∧ Q b H'
noncomputable def Fm : Flow → Flow → Prop
  | .ret a, f => ∃ v, f = .ret v ∧ Vm a v
  | a, f => f = a
/-- statements -/
noncomputable def WS (prog : Program) (w : World) (n : Nat) (mg mb : Str → Option Value) (K : Shared) (env : Env) (nm : List (Str × NameKind)) (oc : Bool) (m : Sem Flow) (F : List (Option Value)) (H : List Ent) (Q : Flow → List (Option Value) → List Ent → Prop) : Prop :=
  WX prog w n mg mb K env nm oc m F H fun f F' H' => ∃ a, Fm a f ∧ Q a F' H'

theorem WE.mono {m : Sem Value} {Q Q' : Value → List Ent → Prop} (h : WE prog w n mg mb K env nm oc m F H Q) (q : ∀ a H', Q a H' → Q' a H') : WE prog w n mg mb K env nm oc m F H Q' :=
  WX.mono h fun r F' H' z00 => z00.elim fun e z00 => z00.elim fun a z00 => z00.elim fun v x => ⟨e, a, v, q a H' x⟩
theorem WS.mono {m : Sem Flow} {Q Q' : Flow → List (Option Value) → List Ent → Prop} (h : WS prog w n mg mb K env nm oc m F H Q) (q : ∀ a F' H', Q a F' H' → Q' a F' H') : WS prog w n mg mb K env nm oc m F H Q' :=
  WX.mono h fun r F' H' z00 => z00.elim fun a z00 => z00.elim fun v x => ⟨a, v, q a F' H' x⟩
theorem WS.less {m : Sem Flow} {Q : Flow → List (Option Value) → List Ent → Prop} {H' : List Ent} (h : WS prog w n mg mb K env nm oc m F H' Q) (s : H'.Sublist H) : WS prog w n mg mb K env nm oc m F H Q :=
  fun A hA P s₀ E R st hR => h A hA P s₀ E R (st.drop s) hR
theorem WS.perm {m : Sem Flow} {Q : Flow → List (Option Value) → List Ent → Prop} {H' : List Ent} (h : WS prog w n mg mb K env nm oc m F H' Q) (s : H'.Perm H) : WS prog w n mg mb K env nm oc m F H Q :=
  fun A hA P s₀ E R st hR => h A hA P s₀ E R (st.perm s) hR
/-! constants and names -/
theorem we_int {i : Int} {k : Nat} {pos : Pos} {Q : Value → List Ent → Prop} (h : Q (I i) H) : WE prog w n mg mb K env nm oc (eval (.Constant (.int i) k pos) env) F H Q :=
  fun A hA P s E R st hR => wpAny_Constant_int (hR _ _ _ _ (st.tok _) ⟨rfl, _, Vm.int, h⟩)
theorem we_str {x : Str} {k : Nat} {pos : Pos} {Q : Value → List Ent → Prop} (h : Q (S x) H) : WE prog w n mg mb K env nm oc (eval (.Constant (.str x) k pos) env) F H Q :=
  fun A hA P s E R st hR => wpAny_Constant_str (hR _ _ _ _ (st.tok _) ⟨rfl, _, Vm.str, h⟩)
theorem we_none {k : Nat} {pos : Pos} {Q : Value → List Ent → Prop} (h : Q .none H) : WE prog w n mg mb K env nm oc (eval (.Constant .none k pos) env) F H Q :=
  fun A hA P s E R st hR => wpAny_Constant_none (hR _ _ _ _ st ⟨rfl, _, Vm.refl _, h⟩)
/-- a name of the frame is read -/
theorem wl_name {x : Str} {Q : Value → List Ent → Prop} (i : Nat) {k : NameKind} {a : Value} (hx : nm[i]? = some (x, k)) (hF : F[i]? = some (some a)) (hk : k = .local ∨ k = .cell ∨ k = .free) (h : Q a H)
    (hn : (x == ("__classdict__" : Str)) = false) : WE prog w n mg mb K env nm oc (loadName env x) F H Q := by
  intro A hA P s E R st hR
  have hkind := st.ok.kindOf hx
  rcases hk with rfl | hk
  · obtain ⟨m, f, g⟩ := st.fr
    obtain ⟨v, h1, h2⟩ := g i x a hx hF
    exact wpAny_loadName_local st.ok.kind hkind f.ns h1 (hR _ _ _ _ st ⟨rfl, a, h2, h⟩)
  · obtain ⟨c, ov, h1, h2, h3⟩ := st.cl i x k hx hk
    obtain ⟨v, rfl, h4⟩ := h3 a hF
    rcases hk with rfl | rfl
    · exact wpAny_loadName_cell st.ok.kind hkind h1 h2 (hR _ _ _ _ st ⟨rfl, a, h4, h⟩)
    · exact wpAny_loadName_free st.ok.kind hkind h1 h2 (hR _ _ _ _ st ⟨rfl, a, h4, h⟩) hn
theorem we_of_load {x : Str} {pos : Pos} {Q : Value → List Ent → Prop} (h : WE prog w n mg mb K env nm oc (loadName env x) F H Q) (hd : (x == ("__debug__" : Str)) = false) : WE prog w n mg mb K env nm oc (eval (.Name x pos) env) F H Q :=
  fun A hA P s E R st hR => wpAny_Name (h A hA P s E R st hR) hd
theorem we_name {x : Str} {pos : Pos} {Q : Value → List Ent → Prop} (i : Nat) {k : NameKind} {a : Value} (hx : nm[i]? = some (x, k)) (hF : F[i]? = some (some a)) (hk : k = .local ∨ k = .cell ∨ k = .free) (h : Q a H)
    (hn : (x == ("__classdict__" : Str)) = false) (hd : (x == ("__debug__" : Str)) = false) : WE prog w n mg mb K env nm oc (eval (.Name x pos) env) F H Q := we_of_load (wl_name i hx hF hk h hn) hd

/-- a name of the module's, or a built-in one -/
theorem we_glob {x : Str} {pos : Pos} {Q : Value → List Ent → Prop} (i : Nat) {v : Value} (hx : nm[i]? = some (x, .globalImplicit)) (hv : mg x = some v) (h : Q v H) (hd : (x == ("__debug__" : Str)) = false) :
    WE prog w n mg mb K env nm oc (eval (.Name x pos) env) F H Q := by
  intro A hA P s E R st hR
  exact Calls.Name_function_global st.ok.kind (st.ok.kindOf hx) (Calls.loadGlobal_global (by rw [st.ok.glob]; exact st.gbase.g) hv (hR _ _ _ _ st ⟨rfl, v, Vm.refl v, h⟩)) hd
theorem we_blt {x : Str} {pos : Pos} {Q : Value → List Ent → Prop} (i : Nat) {v : Value} (hx : nm[i]? = some (x, .globalImplicit)) (hm : mg x = none) (hv : mb x = some v) (h : Q v H) (hd : (x == ("__debug__" : Str)) = false) :
    WE prog w n mg mb K env nm oc (eval (.Name x pos) env) F H Q := by
  intro A hA P s E R st hR
  exact Calls.Name_function_global st.ok.kind (st.ok.kindOf hx) (Calls.loadGlobal_builtin (by rw [st.ok.glob]; exact st.gbase.g) hm (by rw [st.ok.blt]; exact st.gbase.b) hv (hR _ _ _ _ st ⟨rfl, v, Vm.refl v, h⟩)) hd

/-! operators -/
/-- a tree upon values a, b: whatever their tokens -/
noncomputable def WB (prog : Program) (w : World) (n : Nat) (mg mb : Str → Option Value) (K : Shared) (env : Env) (nm : List (Str × NameKind)) (oc : Bool) (m : Value → Value → Sem Value) (a b : Value) (F : List (Option Value)) (H : List Ent) (Q : Value → List Ent → Prop) : Prop :=
  ∀ a' b', Vm a a' → Vm b b' → WE prog w n mg mb K env nm oc (m a' b') F H Q
noncomputable def WU (prog : Program) (w : World) (n : Nat) (mg mb : Str → Option Value) (K : Shared) (env : Env) (nm : List (Str × NameKind)) (oc : Bool) (m : Value → Sem Value) (a : Value) (F : List (Option Value)) (H : List Ent) (Q : Value → List Ent → Prop) : Prop :=
  ∀ a', Vm a a' → WE prog w n mg mb K env nm oc (m a') F H Q

theorem we_BinOp {l r : Expr} {op : Operator} {pos : Pos} {Q : Value → List Ent → Prop}
    (h : WE prog w n mg mb K env nm oc (eval l env) F H fun a H₁ => WE prog w n mg mb K env nm oc (eval r env) F H₁ fun b H₂ => WB prog w n mg mb K env nm oc (binaryOp op) a b F H₂ Q) :
    WE prog w n mg mb K env nm oc (eval (.BinOp l op r pos) env) F H Q := by
  intro A hA P s E R st hR
  refine wpAny_BinOp (h A hA P s E _ st fun v F' H' s₁ st₁ z00 => z00.elim fun e z00 => z00.elim fun a z00 => z00.elim fun ha q => ?_)
  subst e
  refine q A hA P s₁ E _ st₁ fun v₂ F'' H'' s₂ st₂ z00 => z00.elim fun e z00 => z00.elim fun b z00 => z00.elim fun hb q => ?_
  subst e
  exact q v v₂ ha hb A hA P s₂ E R st₂ hR
theorem we_Compare {l r : Expr} {op : CmpOp} {pos : Pos} {Q : Value → List Ent → Prop}
    (h : WE prog w n mg mb K env nm oc (eval l env) F H fun a H₁ => WE prog w n mg mb K env nm oc (eval r env) F H₁ fun b H₂ => WB prog w n mg mb K env nm oc (compareOp op) a b F H₂ Q)
    (hm : behindInMarks op r = false) : WE prog w n mg mb K env nm oc (eval (.Compare l [op] [r] pos) env) F H Q := by
  intro A hA P s E R st hR
  refine wpAny_Compare1 (h A hA P s E _ st fun v F' H' s₁ st₁ z00 => z00.elim fun e z00 => z00.elim fun a z00 => z00.elim fun ha q => ?_) hm
  subst e
  refine q A hA P s₁ E _ st₁ fun v₂ F'' H'' s₂ st₂ z00 => z00.elim fun e z00 => z00.elim fun b z00 => z00.elim fun hb q => ?_
  subst e
  exact q v v₂ ha hb A hA P s₂ E R st₂ hR
theorem wt_Compare {l r : Expr} {op : CmpOp} {pos : Pos} {whole : Sem Value} {Q : Bool → List Ent → Prop}
    (h : WE prog w n mg mb K env nm oc (eval l env) F H fun a H₁ => WE prog w n mg mb K env nm oc (eval r env) F H₁ fun b H₂ => WB prog w n mg mb K env nm oc (compareOp op) a b F H₂ fun c H₃ => ∃ d, c = .bool d ∧ Q d H₃)
    (hm : behindInMarks op r = false) : WT prog w n mg mb K env nm oc (isTrue (.Compare l [op] [r] pos) env whole) F H Q := by
  intro A hA P s E R st hR
  refine wpAny_isTrue_Compare1 (h A hA P s E _ st fun v F' H' s₁ st₁ z00 => z00.elim fun e z00 => z00.elim fun a z00 => z00.elim fun ha q => ?_) hm
  subst e
  refine q A hA P s₁ E _ st₁ fun v₂ F'' H'' s₂ st₂ z00 => z00.elim fun e z00 => z00.elim fun b z00 => z00.elim fun hb q => ?_
  subst e
  refine q v v₂ ha hb A hA P s₂ E _ st₂ fun v₃ F₃ H₃ s₃ st₃ z00 => z00.elim fun e z00 => z00.elim fun c z00 => z00.elim fun hc z00 => z00.elim fun d z00 => z00.elim fun hd q' => ?_
  subst e hd
  cases hc
  exact wpAny_truthy_bool (hR _ _ _ _ st₃ ⟨rfl, q'⟩)
theorem we_Unary {x : Expr} {op : UnaryOp} {pos : Pos} {Q : Value → List Ent → Prop} (h : WE prog w n mg mb K env nm oc (eval x env) F H fun a H₁ => WU prog w n mg mb K env nm oc (unaryOp op) a F H₁ Q) :
    WE prog w n mg mb K env nm oc (eval (.UnaryOp op x pos) env) F H Q := by
  intro A hA P s E R st hR
  refine wpAny_UnaryOp (h A hA P s E _ st fun v F' H' s₁ st₁ z00 => z00.elim fun e z00 => z00.elim fun a z00 => z00.elim fun ha q => ?_)
  subst e
  exact q v ha A hA P s₁ E R st₁ hR
theorem wu_neg {i : Int} {t : Tok} {Q : Value → List Ent → Prop} (h : Q (I (-i)) H) : WU prog w n mg mb K env nm oc (unaryOp .USub) (.int i t) F H Q := by
  rintro _ ⟨t, rfl⟩ A hA P s E R st hR
  exact neg_int (hR _ _ _ _ (st.tok _) ⟨rfl, _, Vm.int, h⟩)

section
variable {i j : Int} {t u : Tok} {Q : Value → List Ent → Prop}
theorem wb_add (h : Q (I (i + j)) H) : WB prog w n mg mb K env nm oc (binaryOp .Add) (.int i t) (.int j u) F H Q := by
  rintro _ _ ⟨t, rfl⟩ ⟨u, rfl⟩ A hA P s E R st hR
  exact PyProof.Rows.add_int (hR _ _ _ _ (st.tok _) ⟨rfl, _, Vm.int, h⟩)
theorem wb_sub (h : Q (I (i - j)) H) : WB prog w n mg mb K env nm oc (binaryOp .Sub) (.int i t) (.int j u) F H Q := by
  rintro _ _ ⟨t, rfl⟩ ⟨u, rfl⟩ A hA P s E R st hR
  exact PyProof.Rows.sub_int (hR _ _ _ _ (st.tok _) ⟨rfl, _, Vm.int, h⟩)
theorem wb_mul (hm : IntMulOk i j) (h : Q (I (i * j)) H) : WB prog w n mg mb K env nm oc (binaryOp .Mult) (.int i t) (.int j u) F H Q := by
  rintro _ _ ⟨t, rfl⟩ ⟨u, rfl⟩ A hA P s E R st hR
  exact PyProof.Rows.mul_int (hR _ _ _ _ (st.tok _) ⟨rfl, _, Vm.int, h⟩) hm
theorem wb_mod (hb : j ≠ 0) (h : Q (I (i.fmod j)) H) : WB prog w n mg mb K env nm oc (binaryOp .Mod) (.int i t) (.int j u) F H Q := by
  rintro _ _ ⟨t, rfl⟩ ⟨u, rfl⟩ A hA P s E R st hR
  exact PyProof.Rows.mod_int' hb (hR _ _ _ _ (st.tok _) ⟨rfl, _, Vm.int, h⟩)
theorem wb_div (hb : j ≠ 0) (hp : Builtin.divisionGoesByPylong i j = false) (h : Q (I (i.fdiv j)) H) : WB prog w n mg mb K env nm oc (binaryOp .FloorDiv) (.int i t) (.int j u) F H Q := by
  rintro _ _ ⟨t, rfl⟩ ⟨u, rfl⟩ A hA P s E R st hR
  exact PyProof.Rows.floordiv_int hb (hR _ _ _ _ (st.tok _) ⟨rfl, _, Vm.int, h⟩) (.inl hp)
theorem wb_pow (hn : 0 ≤ j) (hsz : (Builtin.Int.intBits i : Int) * j ≤ 2 ^ 27) (h : Q (I (i ^ j.toNat)) H) : WB prog w n mg mb K env nm oc (binaryOp .Pow) (.int i t) (.int j u) F H Q := by
  rintro _ _ ⟨t, rfl⟩ ⟨u, rfl⟩ A hA P s E R st hR
  exact PyProof.Rows.pow_int hn hsz (hR _ _ _ _ (st.tok _) ⟨rfl, _, Vm.int, h⟩)
theorem wc_eq (h : Q (.bool (i == j)) H) : WB prog w n mg mb K env nm oc (compareOp .Eq) (.int i t) (.int j u) F H Q := by
  rintro _ _ ⟨t, rfl⟩ ⟨u, rfl⟩ A hA P s E R st hR
  exact PyProof.Rows.eq_int (hR _ _ _ _ st ⟨rfl, _, Vm.refl _, h⟩)
theorem wc_ne (h : Q (.bool (i != j)) H) : WB prog w n mg mb K env nm oc (compareOp .NotEq) (.int i t) (.int j u) F H Q := by
  rintro _ _ ⟨t, rfl⟩ ⟨u, rfl⟩ A hA P s E R st hR
  exact PyProof.Rows.ne_int (hR _ _ _ _ st ⟨rfl, _, Vm.refl _, h⟩)
theorem wc_lt (h : Q (.bool (decide (i < j))) H) : WB prog w n mg mb K env nm oc (compareOp .Lt) (.int i t) (.int j u) F H Q := by
  rintro _ _ ⟨t, rfl⟩ ⟨u, rfl⟩ A hA P s E R st hR
  exact PyProof.Rows.lt_int (hR _ _ _ _ st ⟨rfl, _, Vm.refl _, h⟩)
theorem wc_gt (h : Q (.bool (decide (j < i))) H) : WB prog w n mg mb K env nm oc (compareOp .Gt) (.int i t) (.int j u) F H Q := by
  rintro _ _ ⟨t, rfl⟩ ⟨u, rfl⟩ A hA P s E R st hR
  exact PyProof.Rows.gt_int (hR _ _ _ _ st ⟨rfl, _, Vm.refl _, h⟩)
theorem wc_eqs {x y : Str} (h : Q (.bool (x == y)) H) : WB prog w n mg mb K env nm oc (compareOp .Eq) (.str x t) (.str y u) F H Q := by
  rintro _ _ ⟨t, rfl⟩ ⟨u, rfl⟩ A hA P s E R st hR
  exact PyProof.Rows.eq_str (hR _ _ _ _ st ⟨rfl, _, Vm.refl _, h⟩)
theorem wb_adds {x y : Str} (hs : x.length + y.length ≤ sizeLine) (h : Q (S (x ++ y)) H) : WB prog w n mg mb K env nm oc (binaryOp .Add) (.str x t) (.str y u) F H Q := by
  rintro _ _ ⟨t, rfl⟩ ⟨u, rfl⟩ A hA P s E R st hR
  exact PyProof.Rows.add_str (fun t' tk => hR _ _ _ _ (st.tok _) ⟨rfl, _, Vm.str, h⟩) hs
theorem wc_isNotNone {a : Value} (ha : (match a with | .none => false | _ => true) = true) (h : Q (.bool true) H) : WB prog w n mg mb K env nm oc (compareOp .IsNot) a .none F H Q := by
  rintro v _ hv rfl A hA P s E R st hR
  refine isNot_none ?_
  have : (v == Value.none) = false := by
    cases a <;> first | (obtain ⟨_, rfl⟩ := hv; rfl) | (have e : v = _ := hv; rw [e]; rfl) | (exact absurd ha (by decide))
  rw [this]
  exact hR _ _ _ _ st ⟨rfl, _, Vm.refl _, h⟩
theorem wc_isNotNone' (h : Q (.bool false) H) : WB prog w n mg mb K env nm oc (compareOp .IsNot) .none .none F H Q := by
  rintro _ _ rfl rfl A hA P s E R st hR
  exact isNot_none (hR _ _ _ _ st ⟨rfl, _, Vm.refl _, h⟩)
end

/-! tests, and, or, the conditional expression -/
theorem wt_not {x : Expr} {pos : Pos} {whole : Sem Value} {Q : Bool → List Ent → Prop} (h : WT prog w n mg mb K env nm oc (isTrue x env (eval x env)) F H fun b H' => Q (!b) H') :
    WT prog w n mg mb K env nm oc (isTrue (.UnaryOp .Not x pos) env whole) F H Q :=
  fun A hA P s E R st hR => wpAny_isTrue_Not (h A hA P s E _ st fun b F' H' s₁ st₁ q => hR _ _ _ _ st₁ q)
theorem wt_BoolOp {op : BoolOp} {values : List Expr} {pos : Pos} {whole : Sem Value} {Q : Bool → List Ent → Prop} (h : WT prog w n mg mb K env nm oc (allTrue op values env) F H Q) :
    WT prog w n mg mb K env nm oc (isTrue (.BoolOp op values pos) env whole) F H Q :=
  fun A hA P s E R st hR => wpAny_isTrue_BoolOp (h A hA P s E R st hR)
theorem wt_and_nil {Q : Bool → List Ent → Prop} (h : Q true H) : WT prog w n mg mb K env nm oc (allTrue .And [] env) F H Q :=
  fun A hA P s E R st hR => wpAny_allTrue_And_nil (hR _ _ _ _ st ⟨rfl, h⟩)
theorem wt_or_nil {Q : Bool → List Ent → Prop} (h : Q false H) : WT prog w n mg mb K env nm oc (allTrue .Or [] env) F H Q :=
  fun A hA P s E R st hR => wpAny_allTrue_Or_nil (hR _ _ _ _ st ⟨rfl, h⟩)
theorem wt_and_cons {x : Expr} {rest : List Expr} {Q : Bool → List Ent → Prop}
    (h : WT prog w n mg mb K env nm oc (isTrue x env (eval x env)) F H fun b H' => if b then WT prog w n mg mb K env nm oc (allTrue .And rest env) F H' Q else Q false H') :
    WT prog w n mg mb K env nm oc (allTrue .And (x :: rest) env) F H Q := by
  intro A hA P s E R st hR
  refine wpAny_allTrue_And_cons (h A hA P s E _ st fun b F' H' s₁ st₁ z00 => z00.elim fun e q => ?_)
  subst e
  cases b
  · exact hR _ _ _ _ st₁ ⟨rfl, q⟩
  · exact q A hA P s₁ E R st₁ hR
theorem wt_or_cons {x : Expr} {rest : List Expr} {Q : Bool → List Ent → Prop}
    (h : WT prog w n mg mb K env nm oc (isTrue x env (eval x env)) F H fun b H' => if b then Q true H' else WT prog w n mg mb K env nm oc (allTrue .Or rest env) F H' Q) :
    WT prog w n mg mb K env nm oc (allTrue .Or (x :: rest) env) F H Q := by
  intro A hA P s E R st hR
  refine wpAny_allTrue_Or_cons (h A hA P s E _ st fun b F' H' s₁ st₁ z00 => z00.elim fun e q => ?_)
  subst e
  cases b
  · exact q A hA P s₁ E R st₁ hR
  · exact hR _ _ _ _ st₁ ⟨rfl, q⟩
/-- the truth of a value -/
noncomputable def WTr (prog : Program) (w : World) (n : Nat) (mg mb : Str → Option Value) (K : Shared) (env : Env) (nm : List (Str × NameKind)) (oc : Bool) (a : Value) (F : List (Option Value)) (H : List Ent) (Q : Bool → List Ent → Prop) : Prop :=
  ∀ a', Vm a a' → WT prog w n mg mb K env nm oc (truthy a') F H Q
theorem wt_value {e : Expr} {whole : Sem Value} {Q : Bool → List Ent → Prop} (he : isTrue e env whole = (do let v ← whole; standAt e.pos; holding [v] (truthy v)))
    (h : WE prog w n mg mb K env nm oc whole F H fun a H₁ => WTr prog w n mg mb K env nm oc a F H₁ Q) : WT prog w n mg mb K env nm oc (isTrue e env whole) F H Q := by
  intro A hA P s E R st hR
  refine wpAny_isTrue_value (h A hA P s E _ st fun v F' H' s₁ st₁ z00 => z00.elim fun e z00 => z00.elim fun a z00 => z00.elim fun ha q => ?_) he
  subst e
  exact q v ha A hA P s₁ E R st₁ hR
theorem wtr_bool {b : Bool} {Q : Bool → List Ent → Prop} (h : Q b H) : WTr prog w n mg mb K env nm oc (.bool b) F H Q := by
  rintro _ rfl A hA P s E R st hR
  exact wpAny_truthy_bool (hR _ _ _ _ st ⟨rfl, h⟩)
theorem wtr_int {i : Int} {t : Tok} {Q : Bool → List Ent → Prop} (h : Q (i != 0) H) : WTr prog w n mg mb K env nm oc (.int i t) F H Q := by
  rintro _ ⟨u, rfl⟩ A hA P s E R st hR
  exact PyProof.Rows.truthy_int (hR _ _ _ _ st ⟨rfl, h⟩)

theorem we_IfExp {test body orelse : Expr} {pos : Pos} {Q : Value → List Ent → Prop}
    (h : WT prog w n mg mb K env nm oc (isTrue test env (eval test env)) F H fun b H₁ => if b then WE prog w n mg mb K env nm oc (eval body env) F H₁ Q else WE prog w n mg mb K env nm oc (eval orelse env) F H₁ Q) :
    WE prog w n mg mb K env nm oc (eval (.IfExp test body orelse pos) env) F H Q := by
  intro A hA P s E R st hR
  refine wpAny_IfExp (h A hA P s E _ st fun b F' H' s₁ st₁ z00 => z00.elim fun e q => ?_)
  subst e
  cases b <;> exact q A hA P s₁ E R st₁ hR
theorem we_Or2 {x y : Expr} {pos : Pos} {Q : Value → List Ent → Prop}
    (h : WE prog w n mg mb K env nm oc (eval x env) F H fun a H₁ => WTr prog w n mg mb K env nm oc a F H₁ fun b H₂ => if b then Q a H₂ else WE prog w n mg mb K env nm oc (eval y env) F H₂ Q) :
    WE prog w n mg mb K env nm oc (eval (.BoolOp .Or [x, y] pos) env) F H Q := by
  intro A hA P s E R st hR
  refine wpAny_Or2 (h A hA P s E _ st fun v F' H' s₁ st₁ z00 => z00.elim fun e z00 => z00.elim fun a z00 => z00.elim fun ha q => ?_)
  subst e
  refine q v ha A hA P s₁ E _ st₁ fun b F' H' s₂ st₂ z00 => z00.elim fun e q => ?_
  subst e
  cases b
  · exact q A hA P s₂ E R st₂ hR
  · exact hR _ _ _ _ st₂ ⟨rfl, a, ha, q⟩

/-! statements -/
theorem ws_nil {Q : Flow → List (Option Value) → List Ent → Prop} (h : Q .next F H) : WS prog w n mg mb K env nm oc (execs [] env) F H Q :=
  fun A hA P s E R st hR => wpAny_execs_nil (hR _ _ _ _ st ⟨.next, rfl, h⟩)
theorem ws_cons {x : Stmt} {rest : List Stmt} {Q : Flow → List (Option Value) → List Ent → Prop}
    (h : WS prog w n mg mb K env nm oc (exec x env) F H fun f F' H' => match f with | .next => WS prog w n mg mb K env nm oc (execs rest env) F' H' Q | f => Q f F' H') :
    WS prog w n mg mb K env nm oc (execs (x :: rest) env) F H Q := by
  intro A hA P s E R st hR
  refine wpAny_execs_cons (h A hA P s E _ st fun f F' H' s₁ st₁ z00 => z00.elim fun a z00 => z00.elim fun ha q => ?_)
  cases a with
  | next => cases ha; exact q A hA P s₁ E R st₁ hR
  | brk => cases ha; exact hR _ _ _ _ st₁ ⟨.brk, rfl, q⟩
  | cont => cases ha; exact hR _ _ _ _ st₁ ⟨.cont, rfl, q⟩
  | ret v => obtain ⟨u, rfl, hu⟩ := ha; exact hR _ _ _ _ st₁ ⟨.ret v, ⟨u, rfl, hu⟩, q⟩
theorem ws_If {test : Expr} {body orelse : List Stmt} {pos : Pos} {Q : Flow → List (Option Value) → List Ent → Prop}
    (h : WT prog w n mg mb K env nm oc (isTrue test env (eval test env)) F H fun b H₁ => if b then WS prog w n mg mb K env nm oc (execs body env) F H₁ Q else WS prog w n mg mb K env nm oc (execs orelse env) F H₁ Q) :
    WS prog w n mg mb K env nm oc (exec (.If test body orelse pos) env) F H Q := by
  intro A hA P s E R st hR
  refine wpAny_If (h A hA P s E _ st fun b F' H' s₁ st₁ z00 => z00.elim fun e q => ?_)
  subst e
  cases b <;> exact q A hA P s₁ E R st₁ hR
theorem ws_Return {e : Expr} {pos : Pos} {Q : Flow → List (Option Value) → List Ent → Prop} (h : WE prog w n mg mb K env nm oc (eval e env) F H fun a H' => Q (.ret a) F H') :
    WS prog w n mg mb K env nm oc (exec (.Return (some e) pos) env) F H Q := by
  intro A hA P s E R st hR
  refine wpAny_Return_some (h A hA P s E _ st fun v F' H' s₁ st₁ z00 => z00.elim fun e z00 => z00.elim fun a z00 => z00.elim fun ha q => ?_)
  subst e
  exact hR _ _ _ _ st₁ ⟨.ret a, ⟨v, rfl, ha⟩, q⟩

/-- the value a goes to a name -/
noncomputable def WN (prog : Program) (w : World) (n : Nat) (mg mb : Str → Option Value) (K : Shared) (env : Env) (nm : List (Str × NameKind)) (oc : Bool) (m : Value → Sem Unit) (a : Value) (F : List (Option Value)) (H : List Ent) (Q : List (Option Value) → List Ent → Prop) : Prop :=
  ∀ v, Vm a v → WX prog w n mg mb K env nm oc (m v) F H fun _ F' H' => Q F' H'
theorem wn_local {x : Str} {a : Value} {Q : List (Option Value) → List Ent → Prop} (i : Nat) (hx : nm[i]? = some (x, .local)) (h : Q (F.set i (some a)) H) : WN prog w n mg mb K env nm oc (storeName env x) a F H Q := by
  intro v hv A hA P s E R st hR
  obtain ⟨m, f, g⟩ := st.fr
  exact wpAny_storeName_local (st.ok.kindOf hx) f.ns (fun h' hn hs => hR _ _ _ _ (st.setLocal hx hv (fun j y b h1 h2 => g j y b h1 h2) hn hs _) h) (by rw [st.ok.kind]; rfl)
theorem wn_cell {x : Str} {a : Value} {Q : List (Option Value) → List Ent → Prop} (i : Nat) (hx : nm[i]? = some (x, .cell)) (h : Q (F.set i (some a)) H) : WN prog w n mg mb K env nm true (storeName env x) a F H Q := by
  intro v hv A hA P s E R st hR
  obtain ⟨c, ov, h1, h2, h3⟩ := st.cl i x .cell hx (.inl rfl)
  exact wpAny_storeName_cell st.ok.kind (st.ok.kindOf hx) h1 h2 fun h' hc hs => hR _ _ _ _ (st.setCell hx hv h1 h2 hc hs) h
theorem wn_assign {x : Str} {pos : Pos} {a : Value} {Q : List (Option Value) → List Ent → Prop} (h : WN prog w n mg mb K env nm oc (storeName env x) a F H Q) : WN prog w n mg mb K env nm oc (assign (.Name x pos) env) a F H Q :=
  fun v hv A hA P s E R st hR => wpAny_assign_Name (h v hv A hA P s E R st hR)

theorem ws_Assign {x : Str} {pos' pos : Pos} {value : Expr} {Q : Flow → List (Option Value) → List Ent → Prop} (hs : swapsWith value (some (.Name x pos')) pos.line env = pure false)
    (h : WE prog w n mg mb K env nm oc (eval value env) F H fun a H₁ => WN prog w n mg mb K env nm oc (storeName env x) a F H₁ fun F' H' => Q .next F' H') :
    WS prog w n mg mb K env nm oc (exec (.Assign [.Name x pos'] value pos) env) F H Q := by
  intro A hA P s E R st hR
  refine wpAny_Assign_Name (h A hA P s E _ st fun v F' H' s₁ st₁ z00 => z00.elim fun e z00 => z00.elim fun a z00 => z00.elim fun ha q => ?_) hs
  subst e
  exact q v ha A hA P s₁ E _ st₁ fun _ F' H' s₂ st₂ q => hR _ _ _ _ st₂ ⟨.next, rfl, q⟩
theorem ws_Assign2 {t₁ t₂ value : Expr} {pos : Pos} {Q : Flow → List (Option Value) → List Ent → Prop}
    (he : (assignEach [t₁, t₂] env).map (·.2) = [assign t₁ env, assign t₂ env]) (hw : swappedStores [t₁, t₂] value env = pure none)
    (h : WE prog w n mg mb K env nm oc (eval value env) F H fun a H₁ => WN prog w n mg mb K env nm oc (assign t₁ env) a F H₁ fun F₂ H₂ => WN prog w n mg mb K env nm oc (assign t₂ env) a F₂ H₂ fun F' H' => Q .next F' H') :
    WS prog w n mg mb K env nm oc (exec (.Assign [t₁, t₂] value pos) env) F H Q := by
  intro A hA P s E R st hR
  refine wpAny_Assign_two (h A hA P s E _ st fun v F' H' s₁ st₁ z00 => z00.elim fun e z00 => z00.elim fun a z00 => z00.elim fun ha q => ?_) he (hw := hw)
  subst e
  exact q v ha A hA P s₁ E _ st₁ fun _ F' H' s₂ st₂ q => q v ha A hA P s₂ E _ st₂ fun _ F' H' s₃ st₃ q => hR _ _ _ _ st₃ ⟨.next, rfl, q⟩
/-- the iop of the augmented assignment -/
theorem ws_Aug {x : Str} {pos' pos : Pos} {op : Operator} {value : Expr} {Q : Flow → List (Option Value) → List Ent → Prop}
    (h : WE prog w n mg mb K env nm oc (loadName env x) F H fun a H₁ => WE prog w n mg mb K env nm oc (eval value env) F H₁ fun b H₂ => WB prog w n mg mb K env nm oc (inplaceOp op) a b F H₂ fun c H₃ => WN prog w n mg mb K env nm oc (storeName env x) c F H₃ fun F' H' => Q .next F' H') :
    WS prog w n mg mb K env nm oc (exec (.AugAssign (.Name x pos') op value pos) env) F H Q := by
  intro A hA P s E R st hR
  refine wpAny_AugAssign_Name (h A hA P s E _ st fun v F' H' s₁ st₁ z00 => z00.elim fun e z00 => z00.elim fun a z00 => z00.elim fun ha q => ?_)
  subst e
  refine q A hA P s₁ E _ st₁ fun v₂ F' H' s₂ st₂ z00 => z00.elim fun e z00 => z00.elim fun b z00 => z00.elim fun hb q => ?_
  subst e
  refine q v v₂ ha hb A hA P s₂ E _ st₂ fun v₃ F' H' s₃ st₃ z00 => z00.elim fun e z00 => z00.elim fun c z00 => z00.elim fun hc q => ?_
  subst e
  exact q v₃ hc A hA P s₃ E _ st₃ fun _ F' H' s₂ st₂ q => hR _ _ _ _ st₂ ⟨.next, rfl, q⟩
theorem wb_iadd {i j : Int} {t u : Tok} {Q : Value → List Ent → Prop} (h : Q (I (i + j)) H) : WB prog w n mg mb K env nm oc (inplaceOp .Add) (.int i t) (.int j u) F H Q := by
  rintro _ _ ⟨t, rfl⟩ ⟨u, rfl⟩ A hA P s E R st hR
  exact PyProof.Rows.iadd_int (hR _ _ _ _ (st.tok _) ⟨rfl, _, Vm.int, h⟩)
end
end Mine
end

section
open PySem PySem.W PyProof.Rows
set_option Elab.async false
set_option linter.unusedVariables false
namespace Mine
section
variable {α β : Type} {prog : Program} {w : World} {n : Nat} {mg mb : Str → Option Value} {K : Shared} {env : Env} {nm : List (Str × NameKind)} {oc : Bool} {F : List (Option Value)} {H : List Ent}

/-! the library's rules speak of a frame and of new objects: all that stands is one of these -/
theorem St.via {P : List (Addr × Obj)} {s : Shared} (st : St mg mb K P env nm oc F H s) :
    ∃ m news, Fr K.heap env.locals s.heap m ∧ News K.heap env.locals s.heap news ∧ (∀ s', Fr K.heap env.locals s'.heap m → News K.heap env.locals s'.heap news → s'.gens = #[] → s'.os = s.os → St mg mb K P env nm oc F H s') ∧
      (∀ a o, s.heap.get? a = some o → a ≠ env.locals → ∀ h', Fr K.heap env.locals h' m → News K.heap env.locals h' news → h'.get? a = some o) := by
  obtain ⟨m, f, g⟩ := st.fr
  let news := (List.range s.heap.objs.size).filterMap fun a => if a = env.locals then none else match K.heap.get? a with
    | some _ => none
    | none => (s.heap.get? a).map fun o => (a, o)
  have hmem : ∀ a o, a ≠ env.locals → K.heap.get? a = none → s.heap.get? a = some o → (a, o) ∈ news := fun a o h1 h2 h3 =>
    List.mem_filterMap.mpr ⟨a, List.mem_range.mpr (Heap.lt_size h3), by rw [if_neg h1, h2]; simp [h3]⟩
  have hN : News K.heap env.locals s.heap news := by
    intro p hp
    obtain ⟨a, ha, e⟩ := List.mem_filterMap.mp hp
    by_cases q : a = env.locals
    · rw [if_pos q] at e; cases e
    · rw [if_neg q] at e
      cases hk : K.heap.get? a with
      | some o => rw [hk] at e; cases e
      | none =>
        rw [hk] at e
        cases ho : s.heap.get? a with
        | none => rw [ho] at e; cases e
        | some o => rw [ho] at e; cases e; exact ⟨ho, q, hk⟩
  have keep : ∀ a o, s.heap.get? a = some o → a ≠ env.locals → ∀ h', Fr K.heap env.locals h' m → News K.heap env.locals h' news → h'.get? a = some o := fun a o ho ha h' f' N' => by
    cases hk : K.heap.get? a with
    | some o' =>
      have e1 := f.keep a o' hk
      rw [ho] at e1
      cases e1
      exact f'.keep a o hk
    | none => exact (N' (a, o) (hmem a o ha hk ho)).1
  refine ⟨m, news, f, hN, fun s' f' N' hg ho => ?_, keep⟩
  refine ⟨st.ok, ⟨m, f', g⟩, fun i x k hn hk => ?_, fun e he => ⟨(st.led e he).1.at' fun o e' => keep _ o e' (st.kindne he) s'.heap f' N', (st.led e he).2⟩, st.nod,
    fun p hp => ⟨keep _ _ (st.pro p hp).1 (st.pro p hp).2.1 s'.heap f' N', (st.pro p hp).2⟩, hg, ho.trans st.os⟩
  obtain ⟨c, ov, h1, h2, h3⟩ := st.cl i x k hn hk
  have hc := st.cellneL h2
  obtain ⟨o, e, d⟩ := h2
  exact ⟨c, ov, h1, ⟨o, keep c o e hc s'.heap f' N', d⟩, h3⟩

/-! arguments, items -/
noncomputable def WL (prog : Program) (w : World) (n : Nat) (mg mb : Str → Option Value) (K : Shared) (env : Env) (nm : List (Str × NameKind)) (oc : Bool) (m : Sem (List Value)) (F : List (Option Value)) (H : List Ent) (Q : List Value → List Ent → Prop) : Prop :=
  WX prog w n mg mb K env nm oc m F H fun vs F' H' => F' = F ∧ ∃ as, Paired Vm as vs ∧ Q as H'
theorem wl_nil {pos : Pos} {Q : List Value → List Ent → Prop} (h : Q [] H) : WL prog w n mg mb K env nm oc (spliced (backTo pos (starEach [] env))) F H Q :=
  fun A hA P s E R st hR => wpAny_items_nil (hR _ _ _ _ st ⟨rfl, [], .nil, h⟩)
theorem wl_cons {pos : Pos} {e : Expr} {rest : List Expr} {Q : List Value → List Ent → Prop} (he : starEach (e :: rest) env = (false, eval e env) :: starEach rest env)
    (h : WE prog w n mg mb K env nm oc (eval e env) F H fun a H₁ => WL prog w n mg mb K env nm oc (spliced (backTo pos (starEach rest env))) F H₁ fun as H₂ => Q (a :: as) H₂) :
    WL prog w n mg mb K env nm oc (spliced (backTo pos (starEach (e :: rest) env))) F H Q := by
  intro A hA P s E R st hR
  refine wpAny_items_cons (h A hA P s E _ st fun v F' H' s₁ st₁ z00 => z00.elim fun e z00 => z00.elim fun a z00 => z00.elim fun ha q => ?_) he
  subst e
  exact q A hA P s₁ E _ st₁ fun vs F' H' s₂ st₂ z00 => z00.elim fun e z00 => z00.elim fun as z00 => z00.elim fun has q => hR _ _ _ _ st₂ ⟨e, a :: as, .cons ha has, q⟩

theorem we_List {elts : List Expr} {pos : Pos} {Q : Value → List Ent → Prop}
    (h : WL prog w n mg mb K env nm oc (spliced (backTo pos (starEach elts env))) F H fun as H₁ => as.length ≤ sizeLine ∧ ∀ a, Q (.ref a) (H₁ ++ [(a, as)])) :
    WE prog w n mg mb K env nm oc (eval (.List elts pos) env) F H Q := by
  intro A hA P s E R st hR
  refine wpAny_List (h A hA P s E _ st fun vs F' H' s₁ st₁ z00 => z00.elim fun e z00 => z00.elim fun as z00 => z00.elim fun has z00 => z00.elim fun q1 q2 => ⟨Paired.len has ▸ q1, ?_⟩)
  subst e
  exact hR _ _ _ _ (st₁.newList has) ⟨rfl, _, Vm.refl _, q2 _⟩

/-- a call of f upon values -/
noncomputable def WC (prog : Program) (w : World) (n : Nat) (mg mb : Str → Option Value) (K : Shared) (env : Env) (nm : List (Str × NameKind)) (oc : Bool) (f : Value) (as : List Value) (F : List (Option Value)) (H : List Ent) (Q : Value → List Ent → Prop) : Prop :=
  ∀ vs, Paired Vm as vs → WE prog w n mg mb K env nm oc (call f vs) F H Q

theorem we_Call {id : Str} {p pos : Pos} {args : List Expr} {Q : Value → List Ent → Prop}
    (h : WE prog w n mg mb K env nm oc (eval (.Name id p) env) F H fun f H₁ => ∀ f', Vm f f' → WE prog w n mg mb K env nm oc (callWith pos f' [] (backTo pos (starEach args env)) []) F H₁ Q) :
    WE prog w n mg mb K env nm oc (eval (.Call (.Name id p) args [] pos) env) F H Q := by
  intro A hA P s E R st hR
  refine wpAny_Call_NameR (h A hA P s E _ st fun v F' H' s₁ st₁ z00 => z00.elim fun e z00 => z00.elim fun a z00 => z00.elim fun ha q => ?_)
  subst e
  exact q v ha A hA P s₁ E R st₁ hR
/-- the callee that is no heap's object -/
theorem we_with {f : Value} {pos : Pos} {first : List Value} {x : Expr} {rest : List Expr} {Q : Value → List Ent → Prop} (hf : keeperOf f = pure .machine)
    (he : starEach (x :: rest) env = (false, eval x env) :: starEach rest env) (hp : (backTo pos (starEach rest env)).any (·.1) = false)
    (h : WL prog w n mg mb K env nm oc (spliced (backTo pos (starEach (x :: rest) env))) F H fun as H₁ => ∀ vs, Paired Vm as vs → WE prog w n mg mb K env nm oc (call f (first ++ vs)) F H₁ Q) :
    WE prog w n mg mb K env nm oc (callWith pos f first (backTo pos (starEach (x :: rest) env)) []) F H Q := by
  intro A hA P s E R st hR
  have h' := h A hA P s E (fun vs s₁ => wpAny (model prog w) A (call f (first ++ vs)) R E s₁) st fun vs F' H' s₁ st₁ z00 => z00.elim fun e z00 => z00.elim fun as z00 => z00.elim fun has q => by
    subst e
    exact q vs has A hA P s₁ E R st₁ hR
  rw [he] at h' ⊢
  refine callWith_of (P := fun _ => True) (by show ((false || (backTo pos (starEach rest env)).any (·.1)) || false) = false; rw [hp]; rfl) (fun h _ => ⟨.machine, .inr (.inl rfl), Looks.of_pure hf⟩) (Calls.evalArgs_plain ?_)
  exact wpAny_mono h' (fun vs s₁ x => ⟨trivial, x⟩) fun _ _ x => x
theorem we_with0 {f : Value} {pos : Pos} {first : List Value} {Q : Value → List Ent → Prop} (hf : keeperOf f = pure .machine)
    (h : WE prog w n mg mb K env nm oc (call f (first ++ [])) F H Q) :
    WE prog w n mg mb K env nm oc (callWith pos f first (backTo pos (starEach [] env)) []) F H Q := by
  intro A hA P s E R st hR
  exact callWith_of (P := fun _ => True) rfl (fun h _ => ⟨.machine, .inr (.inl rfl), Looks.of_pure hf⟩) (evalArgs_nil3 ⟨trivial, h A hA P s E R st hR⟩)

/-- a method of a value of type T -/
theorem we_Method {o : Expr} {name : Str} {apos pos : Pos} {args : List Expr} {T id : String} {Q : Value → List Ent → Prop}
    (hbase : attributeBase o name env (eval o env) = eval o env)
    (hfew : ((backTo pos (starEach args env)).all (fun x => !x.1) && (backToKw pos (keywordEach [] env)).all (fun x => x.1.isSome)
      && decide (args.length + ([] : List Keyword).length + (if ([] : List Keyword).isEmpty then 0 else 1) < 30)) = true)
    (hline : (apos.endLine == pos.line) = true)
    (pa : PlainAttrs T) (slot : Slot T name id) (hty : typeOf (.builtin id) = pure (.type "method_descriptor"))
    (h : WE prog w n mg mb K env nm oc (eval o env) F H fun a H₁ => (∀ P s, St mg mb K P env nm oc F H₁ s → ∀ v, Vm a v → s.TypeIs v T ∧ ∀ b, v = .ref b → ∃ ob, s.heap.get? b = some ob ∧ ob.dict = none) ∧
      ∀ v, Vm a v → WE prog w n mg mb K env nm oc (callWith pos (.builtin id) [v] (backTo pos (starEach args env)) []) F H₁ Q) :
    WE prog w n mg mb K env nm oc (eval (.Call (.Attribute o name apos) args [] pos) env) F H Q := by
  intro A hA P s E R st hR
  refine wpAny_Call_method hbase hfew hline pa slot hty (h A hA P s E _ st fun v F' H' s₁ st₁ z00 => z00.elim fun e z00 => z00.elim fun a z00 => z00.elim fun ha z00 => z00.elim fun q1 q2 => ?_)
  subst e
  exact ⟨(q1 P s₁ st₁ v ha).1, (q1 P s₁ st₁ v ha).2, q2 v ha A hA P s₁ E R st₁ hR⟩

/-! built-in functions -/
theorem wc_len_str {x : Str} {t : Tok} {Q : Value → List Ent → Prop} (hs : x.length ≤ sizeLine) (h : Q (I x.length) H) : WC prog w n mg mb K env nm oc (.builtin "len") [.str x t] F H Q := by
  rintro _ (_ | ⟨⟨u, rfl⟩, _ | _⟩) A hA P s E R st hR
  exact PyProof.Rows.len_str (by rw [sizeLine_eq] at hs; omega) (hR _ _ _ _ (st.tok _) ⟨rfl, _, Vm.int, h⟩)
theorem wc_ord {x : Str} {t : Tok} {Q : Value → List Ent → Prop} (hs : x.length = 1) (h : Q (I (x.cps.getD 0 0 : Nat)) H) : WC prog w n mg mb K env nm oc (.builtin "ord") [.str x t] F H Q := by
  rintro _ (_ | ⟨⟨u, rfl⟩, _ | _⟩) A hA P s E R st hR
  exact ord_of_one hs (hR _ _ _ _ (st.tok _) ⟨rfl, _, Vm.int, h⟩)
theorem wc_chr {i : Int} {t : Tok} {Q : Value → List Ent → Prop} (h0 : 0 ≤ i) (h1 : i ≤ 1114111) (h : Q (S ⟨#[i.toNat]⟩) H) : WC prog w n mg mb K env nm oc (.builtin "chr") [.int i t] F H Q := by
  rintro _ (_ | ⟨⟨u, rfl⟩, _ | _⟩) A hA P s E R st hR
  exact chr_of_range h0 h1 (hR _ _ _ _ (st.tok _) ⟨rfl, _, Vm.str, h⟩)
theorem wc_min {i j : Int} {t u : Tok} {Q : Value → List Ent → Prop} (h : Q (I (if j < i then j else i)) H) : WC prog w n mg mb K env nm oc (.builtin "min") [.int i t, .int j u] F H Q := by
  rintro _ (_ | ⟨⟨t, rfl⟩, _ | ⟨⟨u, rfl⟩, _ | _⟩⟩) A hA P s E R st hR
  obtain ⟨m, news, f, N, back, _⟩ := st.via
  refine min_two_N hA.1 f N fun h' tk f' N' => hR _ _ _ _ (back { s with heap := h', toks := tk } f' N' st.gens rfl) ⟨rfl, I (if j < i then j else i), ?_, h⟩
  split <;> exact Vm.int

/-- a list that can be read: one of the frame's own, or one that stood -/
noncomputable def Rd (K : Shared) (H : List Ent) (a : Addr) (xs : List Value) : Prop := (a, xs) ∈ H ∨ RdAt K.heap a xs
theorem Rd.at' {P : List (Addr × Obj)} {s : Shared} (st : St mg mb K P env nm oc F H s) {a : Addr} {xs : List Value} (h : Rd K H a xs) : ∃ vs, s.heap.IsList a vs ∧ Paired Vm xs vs.toList := by
  rcases h with h | h
  · exact (st.led _ h).1.rd
  · exact h.at' fun o e => st.keep _ o e

theorem wc_len_list {a : Addr} {xs : List Value} {Q : Value → List Ent → Prop} (hr : Rd K H a xs) (hs : xs.length ≤ sizeLine) (h : Q (I xs.length) H) : WC prog w n mg mb K env nm oc (.builtin "len") [.ref a] F H Q := by
  rintro _ (_ | ⟨rfl, _ | _⟩) A hA P s E R st hR
  obtain ⟨vs, hl, hp⟩ := hr.at' st
  have e : vs.size = xs.length := by have := Paired.len hp; simpa using this.symm
  refine PyProof.Rows.len_list hl (by rw [e]; rw [sizeLine_eq] at hs; omega) ?_
  rw [e]
  exact hR _ _ _ _ (st.tok _) ⟨rfl, I xs.length, Vm.int, h⟩

/-! subscripts -/
/-- the value upon the subscript's own tail -/
noncomputable def WSub (prog : Program) (w : World) (n : Nat) (mg mb : Str → Option Value) (K : Shared) (env : Env) (nm : List (Str × NameKind)) (oc : Bool) (value slice : Expr) (a i : Value) (F : List (Option Value)) (H : List Ent) (Q : Value → List Ent → Prop) : Prop :=
  ∀ a' i', Vm a a' → Vm i i' → WE prog w n mg mb K env nm oc (subscriptTail value slice a' i') F H Q
theorem we_Sub {value slice : Expr} {pos : Pos} {Q : Value → List Ent → Prop}
    (h : WE prog w n mg mb K env nm oc (eval value env) F H fun a H₁ => WE prog w n mg mb K env nm oc (eval slice env) F H₁ fun i H₂ => WSub prog w n mg mb K env nm oc value slice a i F H₂ Q) :
    WE prog w n mg mb K env nm oc (eval (.Subscript value slice pos) env) F H Q := by
  intro A hA P s E R st hR
  refine Subscript_ (h A hA P s E _ st fun v F' H' s₁ st₁ z00 => z00.elim fun e z00 => z00.elim fun a z00 => z00.elim fun ha q => ?_)
  subst e
  refine q A hA P s₁ E _ st₁ fun v₂ F'' H'' s₂ st₂ z00 => z00.elim fun e z00 => z00.elim fun b z00 => z00.elim fun hb q => ?_
  subst e
  exact q v v₂ ha hb A hA P s₂ E R st₂ hR
theorem wsub_list {value slice : Expr} {a : Addr} {xs : List Value} {k : Int} {t : Tok} {x : Value} {Q : Value → List Ent → Prop} (hr : Rd K H a xs) (h0 : 0 ≤ k) (hfit : k < 2 ^ 63) (hx : xs[k.toNat]? = some x) (h : Q x H)
    (hs : ∀ u, subscripted slice false (.ref a) (.int k u) = operate [.ref a, .int k u] (getItem (.ref a) (.int k u))) : WSub prog w n mg mb K env nm oc value slice (.ref a) (.int k t) F H Q := by
  rintro _ _ rfl ⟨u, rfl⟩ A hA P s E R st hR
  obtain ⟨vs, hl, hp⟩ := hr.at' st
  obtain ⟨v, hv, hm⟩ := Paired.get hp hx
  exact tail_any hl.typeIs slot_list_getitem.lookup (wpAny_getItem_list hl h0 hfit (by simpa using hv) (hR _ _ _ _ st ⟨rfl, x, hm, h⟩)) (hs u)
/-- a sign of a text -/
theorem wsub_str {value slice : Expr} {x : Str} {t u : Tok} {i : Int} {c : Nat} {Q : Value → List Ent → Prop} (hr : (decide (i < -(2 ^ 63 : Int)) || decide (i ≥ 2 ^ 63)) = false) (hc : (seqIndex? i x.length).bind (x.cps[·]?) = some c) (h : Q (S ⟨#[c]⟩) H)
    (hs : ∀ t u, subscripted slice false (.str x t) (.int i u) = operate [.str x t, .int i u] (getItem (.str x t) (.int i u))) : WSub prog w n mg mb K env nm oc value slice (.str x t) (.int i u) F H Q := by
  rintro _ _ ⟨t, rfl⟩ ⟨u, rfl⟩ A hA P s E R st hR
  exact tail_any (T := "str") rfl PySem.F.slot_str_getitem.lookup (getItem_str hr hc (hR _ _ _ _ (st.tok _) ⟨rfl, _, Vm.str, h⟩)) (hs t u)
end
end Mine
end

section
open PySem PySem.W PyProof.Rows
set_option Elab.async false
set_option linter.unusedVariables false
namespace Mine
section
variable {α β : Type} {prog : Program} {w : World} {n : Nat} {mg mb : Str → Option Value} {K : Shared} {env : Env} {nm : List (Str × NameKind)} {oc : Bool} {F : List (Option Value)} {H : List Ent}

/-- what is not the frame's nor protected may change -/
noncomputable def Out (K : Shared) (env : Env) (nm : List (Str × NameKind)) (oc : Bool) (H : List Ent) (b : Addr) : Prop :=
  b ≠ env.locals ∧ (∀ e ∈ H, e.1 ≠ b) ∧ (oc = true → ∀ (i : Nat) (x : Str) (c : Addr), nm[i]? = some (x, NameKind.cell) → env.cells.lookup x = some c → c ≠ b)
theorem St.but {P : List (Addr × Obj)} {s s' : Shared} (st : St mg mb K P env nm oc F H s) {wr : List Addr} (k : ∀ b o, b ∉ wr → s.heap.get? b = some o → s'.heap.get? b = some o) (hg : s'.gens = #[]) (ho : s'.os = s.os)
    (hw : ∀ b ∈ wr, K.heap.objs.size ≤ b ∧ Out K env nm oc H b ∧ ∀ p ∈ P, p.1 ≠ b) (hc : ∀ b ∈ wr, ∀ ov, ¬ s.heap.IsCell b ov) : St mg mb K P env nm oc F H s' := by
  obtain ⟨m, f, g⟩ := st.fr
  have hL : env.locals ∉ wr := fun h => (hw _ h).2.1.1 rfl
  refine ⟨st.ok, ⟨m, ⟨?_, fun b o e => k b o (fun h => absurd (hw b h).1 (Nat.not_le.mpr (Heap.lt_size e))) (f.keep b o e), f.above⟩, g⟩, fun i x kk hn hk => ?_, fun e he => ⟨(st.led e he).1.at' fun o => k _ o (fun h => (hw _ h).2.1.2.1 e he rfl), (st.led e he).2⟩, st.nod,
    fun p hp => ⟨k _ _ (fun h => (hw _ h).2.2 p hp rfl) (st.pro p hp).1, (st.pro p hp).2⟩, hg, ho.trans st.os⟩
  · obtain ⟨o, es, ep, h1, h2⟩ := f.ns
    exact ⟨o, es, ep, k _ _ hL h1, h2⟩
  · obtain ⟨c, ov, h1, h2, h3⟩ := st.cl i x kk hn hk
    obtain ⟨o, h4, h5⟩ := id h2
    exact ⟨c, ov, h1, ⟨o, k c o (fun h => hc c h ov h2) h4, h5⟩, h3⟩

/-! iterators -/
structure ItOk (prog : Program) (w : World) (A : Around) (K : Shared) (P : List (Addr × Obj)) (env : Env) (nm : List (Str × NameKind)) (oc : Bool) (H : List Ent) (it : Value) (xs : List Value) (s : Shared) (I : Addr) (fp wr : List Addr) (Pv : Nat → Value → Prop) (Sv : Nat → Heap → Prop) : Prop where
  is : it = .ref I
  W : Walks prog w A I fp wr xs.length Pv Sv
  at0 : Sv 0 s.heap
  val : ∀ (i : Nat) (v a : Value), xs[i]? = some a → Pv i v → Vm a v
  ex : ∀ i h, Sv i h → ∀ b ∈ fp, ∃ o, h.get? b = some o ∧ ∀ ov, o.data ≠ .cell ov
  wrK : ∀ b ∈ wr, K.heap.objs.size ≤ b ∧ ∀ p ∈ P, p.1 ≠ b
  wrO : ∀ b ∈ wr, Out K env nm oc H b

/-- lists put aside while they are walked -/
structure Aside (K : Shared) (P : List (Addr × Obj)) (H : List Ent) (wr : List Addr) (B : List Ent) (s : Shared) : Prop where
  all : ∀ e ∈ B, LstAt s.heap e.1 e.2 ∧ K.heap.objs.size ≤ e.1 ∧ e.1 ∉ wr ∧ (∀ e' ∈ H, e'.1 ≠ e.1) ∧ ∀ p ∈ P, p.1 ≠ e.1
  nod : (B.map (·.1)).Nodup

/-- a tree that gives what can be walked: the values xs; B the lists put aside -/
noncomputable def WI (prog : Program) (w : World) (n : Nat) (mg mb : Str → Option Value) (K : Shared) (env : Env) (nm : List (Str × NameKind)) (oc : Bool) (m : Sem Value) (F : List (Option Value)) (H : List Ent) (xs : List Value) (Q : List Ent → List Ent → Prop) : Prop :=
  ∀ A, Room n A → ∀ P s (E : Value → Shared → Prop) (R : Value → Shared → Prop), St mg mb K P env nm oc F H s →
    (∀ it H' B s' I fp wr Pv Sv, St mg mb K P env nm oc F H' s' → ItOk prog w A K P env nm oc H' it xs s' I fp wr Pv Sv → (∀ b ∈ fp, Out K env nm oc H' b) → Aside K P H' wr B s' → Q H' B → R it s') →
    wpAny (model prog w) A m (fun x s₁ => wpAny (model prog w) A (pyIter x) R E s₁) E s

theorem ws_For {target iter : Expr} {body : List Stmt} {pos : Pos} {xs : List Value} {Q : Flow → List (Option Value) → List Ent → Prop} (Inv : Nat → List (Option Value) → List Ent → Prop)
    (hs : ∀ x, foldedSetIterable iter env x = pure x) (ht : ∀ it v, letOwnedTupleGo target it v = pure ())
    (start : WI prog w n mg mb K env nm oc (eval iter env) F H xs fun H' _ => Inv 0 F H')
    (turn : ∀ i F₁ H₁ a, Inv i F₁ H₁ → xs[i]? = some a → WN prog w n mg mb K env nm oc (assign target env) a F₁ H₁ fun F₂ H₂ => WS prog w n mg mb K env nm oc (execs body env) F₂ H₂ fun fl F₃ H₃ => match fl with
      | .next | .cont => Inv (i + 1) F₃ H₃
      | .brk => Q .next F₃ H₃
      | .ret v => Q (.ret v) F₃ H₃)
    (fin : ∀ F₁ H₁, Inv xs.length F₁ H₁ → Q .next F₁ H₁) : WS prog w n mg mb K env nm oc (exec (.For target iter body [] pos) env) F H Q := by
  intro A hA P s E R st hR
  refine wpAny_For (start A hA P s E _ st fun it H' B s' I fp wr Pv Sv st' J hout hB q => ?_) hs
  obtain ⟨rfl, W, at0, val, ex, wrK, wrO⟩ := J
  refine codeAny_forLoop (R := fun r s' => match r with | .ok f => R f s' | .error e => cameBackBy (model prog w) A env E e s')
    (fun k s₁ => ∃ i F₁ H₁, St mg mb K P env nm oc F₁ H₁ s₁ ∧ Sv i s₁.heap ∧ Inv i F₁ H₁ ∧ i ≤ xs.length ∧ k = xs.length + 1 - i ∧ ∀ b ∈ fp, Out K env nm oc H₁ b) ?_ (xs.length + 1)
    ⟨0, F, H', st', at0, q, Nat.zero_le _, rfl, hout⟩ (ht _)
  rintro k s₁ ⟨i, F₁, H₁, st₁, sv, inv, hi, rfl, ho⟩
  have hwr : ∀ b ∈ wr, K.heap.objs.size ≤ b ∧ Out K env nm oc H₁ b ∧ ∀ p ∈ P, p.1 ≠ b := fun b hb => ⟨(wrK b hb).1, ho b (W.sub b hb), (wrK b hb).2⟩
  have hnc : ∀ b ∈ wr, ∀ ov, ¬ s₁.heap.IsCell b ov := fun b hb ov z00 => z00.elim fun o z00 => z00.elim fun h1 h2 => by
    obtain ⟨o', h3, h4⟩ := ex i s₁.heap sv b (W.sub b hb)
    rw [h1] at h3
    cases h3
    exact h4 ov h2
  by_cases hlt : i < xs.length
  · refine W.item i _ _ _ hlt sv fun v h₂ tk hv sv₂ hk => ?_
    obtain ⟨a, ha⟩ : ∃ a, xs[i]? = some a := ⟨_, List.getElem?_eq_getElem hlt⟩
    have hm := val i v a ha hv
    have st₂ : St mg mb K P env nm oc F₁ H₁ { s₁ with heap := h₂, toks := tk } := st₁.but (s' := { s₁ with heap := h₂, toks := tk }) hk st₁.gens rfl hwr hnc
    let G : List (Addr × Obj) := fp.filterMap fun b => (h₂.get? b).map fun o => (b, o)
    have hG : ∀ p ∈ G, p.1 ∈ fp ∧ h₂.get? p.1 = some p.2 := by
      intro p hp
      obtain ⟨b, hb, e⟩ := List.mem_filterMap.mp hp
      cases ho : h₂.get? b with
      | none => rw [ho] at e; cases e
      | some o => rw [ho] at e; cases e; exact ⟨hb, ho⟩
    have st₃ : St mg mb K (G ++ P) env nm oc F₁ H₁ { s₁ with heap := h₂, toks := tk } := ⟨st₂.ok, st₂.fr, st₂.cl, st₂.led, st₂.nod, fun p hp => by
      rcases List.mem_append.mp hp with hp | hp
      · obtain ⟨h1, h2⟩ := hG p hp
        obtain ⟨o1, o2, o3⟩ := ho p.1 h1
        exact ⟨h2, o1, o2, o3⟩
      · exact st₂.pro p hp, st₂.gens, st₂.os⟩
    have hin : ∀ b ∈ fp, ∃ o, (b, o) ∈ G := fun b hb => by
      obtain ⟨o, h1, _⟩ := ex (i + 1) h₂ sv₂ b hb
      exact ⟨o, List.mem_filterMap.mpr ⟨b, hb, by rw [h1]; rfl⟩⟩
    refine (turn i F₁ H₁ a inv ha) v hm A hA (G ++ P) _ _ _ st₃ fun _ F₂ H₂ s₄ st₄ q₄ => ?_
    refine q₄ A hA (G ++ P) s₄ _ _ st₄ fun fl F₃ H₃ s₅ st₅ z00 => z00.elim fun fl' z00 => z00.elim fun hfl q₅ => ?_
    have back : St mg mb K P env nm oc F₃ H₃ s₅ := ⟨st₅.ok, st₅.fr, st₅.cl, st₅.led, st₅.nod, fun p hp => st₅.pro p (List.mem_append_right _ hp), st₅.gens, st₅.os⟩
    have sv₅ : Sv (i + 1) s₅.heap := W.frame _ _ _ sv₂ fun b hb o e => by
      obtain ⟨o', hm'⟩ := hin b hb
      have h1 := (hG _ hm').2
      have h2 := (st₅.pro _ (List.mem_append_left _ hm')).1
      rw [h1] at e
      cases e
      exact h2
    have go : Inv (i + 1) F₃ H₃ → ∃ m, m < xs.length + 1 - i ∧ ∃ i F₁ H₁, St mg mb K P env nm oc F₁ H₁ s₅ ∧ Sv i s₅.heap ∧ Inv i F₁ H₁ ∧ i ≤ xs.length ∧ m = xs.length + 1 - i ∧ ∀ b ∈ fp, Out K env nm oc H₁ b := fun q =>
      ⟨xs.length + 1 - (i + 1), by omega, i + 1, F₃, H₃, back, sv₅, q, hlt, rfl, fun b hb => by
        obtain ⟨o', hm'⟩ := hin b hb
        exact (st₅.pro _ (List.mem_append_left _ hm')).2⟩
    cases fl' with
    | next => cases hfl; exact go q₅
    | cont => cases hfl; exact go q₅
    | brk => cases hfl; exact hR _ _ _ _ back ⟨.next, rfl, q₅⟩
    | ret u => obtain ⟨u', rfl, hu⟩ := hfl; exact hR _ _ _ _ back ⟨.ret u, ⟨u', rfl, hu⟩, q₅⟩
  · have e : i = xs.length := by omega
    subst e
    refine W.done _ _ _ sv fun h₂ tk hk => wpAny_execs_nil ?_
    have st₂ : St mg mb K P env nm oc F₁ H₁ { s₁ with heap := h₂, toks := tk } := st₁.but (s' := { s₁ with heap := h₂, toks := tk }) hk st₁.gens rfl hwr hnc
    exact hR _ _ _ _ st₂ ⟨.next, rfl, fin F₁ H₁ inv⟩

/-- a while, by what holds and by a number that falls -/
theorem ws_While {test : Expr} {body : List Stmt} {pos : Pos} {Q : Flow → List (Option Value) → List Ent → Prop} (Inv : Nat → List (Option Value) → List Ent → Prop)
    (turn : ∀ k F₁ H₁, Inv k F₁ H₁ → WT prog w n mg mb K env nm oc (isTrue test env (eval test env)) F₁ H₁ fun b H₂ =>
      if b then WS prog w n mg mb K env nm oc (execs body env) F₁ H₂ fun fl F₃ H₃ => match fl with
        | .next | .cont => ∃ m, m < k ∧ Inv m F₃ H₃
        | .brk => Q .next F₃ H₃
        | .ret v => Q (.ret v) F₃ H₃
      else Q .next F₁ H₂)
    (k : Nat) (h : Inv k F H) : WS prog w n mg mb K env nm oc (exec (.While test body [] pos) env) F H Q := by
  intro A hA P s E R st hR
  refine wpAny_While (codeAny_whileLoop (R := fun r s' => match r with | .ok f => R f s' | .error e => cameBackBy (model prog w) A env E e s') (fun k s₁ => ∃ F₁ H₁, St mg mb K P env nm oc F₁ H₁ s₁ ∧ Inv k F₁ H₁) ?_ k ⟨F, H, st, h⟩)
  rintro k s₁ ⟨F₁, H₁, st₁, inv⟩
  refine turn k F₁ H₁ inv A hA P s₁ _ _ st₁ fun b F₂ H₂ s₂ st₂ z00 => z00.elim fun e q => ?_
  subst e
  cases b with
  | false =>
    simp only [Bool.false_eq_true, if_false] at q ⊢
    exact wpAny_execs_nil (hR _ _ _ _ st₂ ⟨.next, rfl, q⟩)
  | true =>
    simp only [if_true] at q ⊢
    refine q A hA P s₂ _ _ st₂ fun fl F₃ H₃ s₃ st₃ z00 => z00.elim fun fl' z00 => z00.elim fun hfl q₃ => ?_
    cases fl' with
    | next => cases hfl; obtain ⟨m, hm, q₃⟩ := q₃; exact ⟨m, hm, F₃, H₃, st₃, q₃⟩
    | cont => cases hfl; obtain ⟨m, hm, q₃⟩ := q₃; exact ⟨m, hm, F₃, H₃, st₃, q₃⟩
    | brk => cases hfl; exact hR _ _ _ _ st₃ ⟨.next, rfl, q₃⟩
    | ret u => obtain ⟨u', rfl, hu⟩ := hfl; exact hR _ _ _ _ st₃ ⟨.ret u, ⟨u', rfl, hu⟩, q₃⟩
end
end Mine
end

section
open PySem PySem.W PyProof.Rows
set_option Elab.async false
set_option linter.unusedVariables false
namespace Mine

/-! the frame of a comprehension -/
noncomputable def relab (nm : List (Str × NameKind)) (names : List (Str × NameKind)) : List (Str × NameKind) := names.map fun (n, k) => if (k == .free && nm.lookup n == some .cell) then (n, .cell) else (n, k)
theorem relab_is {scope : Scope} {env : Env} {nm : List (Str × NameKind)} (hk : env.scope.kind = .function) (hn : env.scope.names = nm) : (relabel scope env).names = relab nm scope.names := by
  unfold relabel relab
  simp only [hk, Env.kindOf, hn, beq_self_eq_true, Bool.and_true]

noncomputable def isVar (k : NameKind) : Bool := k == .cell || k == .free
noncomputable def capOk1 (nm : List (Str × NameKind)) (own : Bool) (y : Str × NameKind) (c : Option Nat) : Bool :=
  if isVar y.2 && !own then (match c with | some j => (match nm[j]? with | some z => z.1 == y.1 && isVar z.2 | none => false) | none => false) else c.isNone
noncomputable def capOk (nm nm' : List (Str × NameKind)) (own : Bool) (cap : List (Option Nat)) : Bool := decide (nm'.length = cap.length) && (nm'.zip cap).all fun (y, c) => capOk1 nm own y c
noncomputable def capF (F : List (Option Value)) (cap : List (Option Nat)) : List (Option Value) := cap.map fun c => c.bind fun j => (F[j]?).join
theorem capOk_at {nm nm' : List (Str × NameKind)} {own : Bool} {cap : List (Option Nat)} (h : capOk nm nm' own cap = true) {i : Nat} {y : Str × NameKind} (hy : nm'[i]? = some y) : ∃ c, cap[i]? = some c ∧ capOk1 nm own y c = true := by
  obtain ⟨h1, h2⟩ := Bool.and_eq_true_iff.mp h
  have hl := of_decide_eq_true h1
  have hi := (List.getElem?_eq_some_iff.mp hy).1
  have hc : cap[i]? = some cap[i] := List.getElem?_eq_getElem (by omega)
  refine ⟨_, hc, ?_⟩
  have : (y, cap[i]) ∈ nm'.zip cap := by
    refine List.mem_iff_getElem?.mpr ⟨i, ?_⟩
    rw [List.getElem?_zip_eq_some]
    exact ⟨hy, hc⟩
  exact List.all_eq_true.mp h2 _ this

theorem cellsFrom_none : ∀ (names : List (Str × NameKind)) (n : Nat) (acc : List (Str × Addr)), (∀ y ∈ names, y.2 ≠ .cell) → cellsFrom n names acc = acc
  | [], _, _, _ => rfl
  | (x, k) :: r, n, acc, h => by
    have hk : (k == NameKind.cell) = false := by simpa using h _ List.mem_cons_self
    unfold cellsFrom
    rw [hk]
    exact cellsFrom_none r n acc fun y hy => h y (List.mem_cons_of_mem _ hy)
theorem cellsFrom_has : ∀ (names : List (Str × NameKind)) (n : Nat) (acc : List (Str × Addr)) (x : Str), ((x, NameKind.cell) ∈ names ∨ (acc.lookup x).isSome = true) → ((cellsFrom n names acc).lookup x).isSome = true
  | [], _, acc, x, h => by
    rcases h with h | h
    · cases h
    · exact h
  | (y, k) :: r, n, acc, x, h => by
    unfold cellsFrom
    split
    · rename_i hk
      refine cellsFrom_has r _ _ x ?_
      rcases h with h | h
      · rcases List.mem_cons.mp h with e | h
        · cases e
          exact .inr (by simp)
        · exact .inl h
      · right
        rw [List.lookup_cons]
        split
        · rfl
        · exact h
    · rename_i hk
      refine cellsFrom_has r _ _ x ?_
      rcases h with h | h
      · rcases List.mem_cons.mp h with e | h
        · cases e
          exact absurd rfl hk
        · exact .inl h
      · exact .inr h

theorem closure_ok {scope : Scope} {env : Env} (h : ∀ y ∈ scope.names, y.2 = .free → (env.cells.lookup y.1).isSome = true) : ∃ cl, closureFor scope env = pure cl ∧ ∀ y ∈ scope.names, y.2 = .free → cl.lookup y.1 = env.cells.lookup y.1 := by
  have gen : ∀ (names : List (Str × NameKind)) (acc : List (Str × Addr)), (∀ y ∈ names, y.2 = .free → (env.cells.lookup y.1).isSome = true) → (∀ x c, acc.lookup x = some c → env.cells.lookup x = some c) →
      ∃ cl : List (Str × Addr), (forIn names acc fun x r => if (x.2 == NameKind.free) = true then (do let a ← cellOf env x.1; pure (ForInStep.yield ((x.1, a) :: r))) else pure (ForInStep.yield r) : Sem (List (Str × Addr))) = pure cl ∧
        (∀ y ∈ names, y.2 = .free → (cl.lookup y.1).isSome = true) ∧ (∀ x, (acc.lookup x).isSome = true → (cl.lookup x).isSome = true) ∧ ∀ x c, cl.lookup x = some c → env.cells.lookup x = some c := by
    intro names
    induction names with
    | nil => intro acc _ ha; exact ⟨acc, rfl, fun y hy => (nomatch hy), fun x hx => hx, ha⟩
    | cons y r ih =>
      intro acc hn ha
      obtain ⟨x, k⟩ := y
      rw [List.forIn_cons]
      by_cases hk : (k == NameKind.free) = true
      · have hk' : k = .free := by simpa using hk
        obtain ⟨c, hc⟩ := Option.isSome_iff_exists.mp (hn (x, k) List.mem_cons_self hk')
        obtain ⟨cl, h1, h2, h3, h4⟩ := ih ((x, c) :: acc) (fun y hy => hn y (List.mem_cons_of_mem _ hy)) (fun x' c' h => by
          rw [List.lookup_cons] at h
          split at h
          · rename_i e
            cases h
            rw [beq_iff_eq.mp e]; exact hc
          · exact ha x' c' h)
        refine ⟨cl, ?_, fun y hy hf => ?_, fun x' hx' => h3 x' ?_, h4⟩
        · simp only [hk, if_true]
          have : cellOf env x = pure c := by unfold cellOf; rw [hc]
          rw [this]
          exact h1
        · rcases List.mem_cons.mp hy with rfl | hy
          · exact h3 x (by simp)
          · exact h2 y hy hf
        · rw [List.lookup_cons]
          split
          · rfl
          · exact hx'
      · obtain ⟨cl, h1, h2, h3, h4⟩ := ih acc (fun y hy => hn y (List.mem_cons_of_mem _ hy)) ha
        refine ⟨cl, ?_, fun y hy hf => ?_, h3, h4⟩
        · simp only [hk]
          exact h1
        · rcases List.mem_cons.mp hy with rfl | hy
          · exact absurd (by simpa using hf) hk
          · exact h2 y hy hf
  obtain ⟨cl, h1, h2, h3, h4⟩ := gen scope.names [] h (fun x c hx => by simp at hx)
  refine ⟨cl, ?_, fun y hy hf => ?_⟩
  · unfold closureFor
    exact congrArg (fun m : Sem (List (Str × Addr)) => m >>= fun r => pure r) h1
  · obtain ⟨c, hc⟩ := Option.isSome_iff_exists.mp (h2 y hy hf)
    rw [hc, h4 _ _ hc]

theorem newEnv_comp {M : Model} {A : Around} {E : Value → Shared → Prop} {s : Shared} {scope : Scope} {globals : Addr} {cl : List (Str × Addr)} {qual : Str} {outer : Env} {Q : Env → Shared → Prop}
    (h : Q { scope := scope, locals := s.heap.objs.size, globals, cells := cellsFrom (s.heap.objs.size + 1) scope.names cl, qual, func := none, code := outer.code, frame := outer.frame, builtins := outer.builtins }
      { s with heap := pushCells (s.heap.push { cls := .type "dict", data := .dict #[] }) scope.names }) :
    wpAny M A (newFunctionEnv scope globals cl [] qual none .none (some outer)) Q E s := by
  simp only [newFunctionEnv, Option.isSome_some, if_true]
  refine wpAny_bind (wpAny_alloc ?_)
  refine wpAny_bind (wpAny_layCells _ (fun name kind cells => by cases hkc : kind == NameKind.cell <;> simp [hkc]) _ _ _ _ ?_)
  rw [show ({ s with heap := s.heap.push { cls := .type "dict", data := .dict #[] } } : Shared).heap.objs.size = s.heap.objs.size + 1 from Heap.size_push ..]
  exact wpAny_bind (by rw [List.forIn_nil]; exact wpAny_pure (wpAny_pure h))
end Mine
end

section
open PySem PySem.W PyProof.Rows
set_option Elab.async false
set_option linter.unusedVariables false
namespace Mine
noncomputable def testsOf (ifs : List Expr) (env : Env) : Sem Bool := forIn ifs true fun c r => if r = true then do let ok ← isTrue c env (eval c env); pure (ForInStep.yield ok) else pure (ForInStep.yield r)

section
variable {prog : Program} {w : World} {n : Nat} {mg mb : Str → Option Value} {K : Shared} {env : Env} {nm : List (Str × NameKind)} {oc : Bool} {F : List (Option Value)} {H : List Ent}

/-- what a comprehension's frame is, as read off the text -/
structure CompOk (nm : List (Str × NameKind)) (scope : Scope) (nm' : List (Str × NameKind)) (oc' : Bool) (cap : List (Option Nat)) (ix : Nat) (x : Str) : Prop where
  kind : scope.kind = .function
  names : relab nm scope.names = nm'
  nd : (nm'.map (·.1)).Nodup
  mode : (if oc' then scope.names.all fun y => y.2 != .free else scope.names.all fun y => y.2 != .cell) = true
  cap : capOk nm nm' oc' cap = true
  var : ∃ k, nm'[ix]? = some (x, k) ∧ (k = .local ∨ (k = .cell ∧ oc' = true))

theorem mem_relab {nm names : List (Str × NameKind)} {x : Str} {k : NameKind} (h : (x, k) ∈ relab nm names) : ∃ k', (x, k') ∈ names ∧ (k' = k ∨ (k' = .free ∧ k = .cell)) := by
  obtain ⟨⟨y, l⟩, hm, e⟩ := List.mem_map.mp h
  dsimp only at e
  split at e
  · rename_i hc
    cases e
    simp only [Bool.and_eq_true, beq_iff_eq] at hc
    exact ⟨_, hc.1 ▸ hm, .inr ⟨rfl, rfl⟩⟩
  · cases e; exact ⟨_, hm, .inl rfl⟩
theorem lookup_mem : ∀ {nm : List (Str × NameKind)} {x : Str} {k : NameKind}, (nm.map (·.1)).Nodup → (x, k) ∈ nm → nm.lookup x = some k := fun {nm x k} hn h => by
  obtain ⟨i, hi⟩ := List.mem_iff_getElem?.mp h
  exact lookup_of_get hn hi
theorem CompOk.kindLocal {scope : Scope} {nm' : List (Str × NameKind)} {oc' : Bool} {cap : List (Option Nat)} {ix : Nat} {x : Str} (c : CompOk nm scope nm' oc' cap ix x) : ∀ y ∈ scope.names, y.2 = .local → scope.names.lookup y.1 = some .local := by
  rintro ⟨y, k⟩ hy rfl
  have hm : (scope.names.map (·.1)) = nm'.map (·.1) := by
    rw [← c.names]
    unfold relab
    rw [List.map_map]
    apply List.map_congr_left
    rintro ⟨a, b⟩ _
    dsimp only [Function.comp]
    split <;> rfl
  exact lookup_mem (hm ▸ c.nd) hy

theorem capF_none {nm' : List (Str × NameKind)} {oc' : Bool} {cap : List (Option Nat)} (h : capOk nm nm' oc' cap = true) {i : Nat} {y : Str × NameKind} (hy : nm'[i]? = some y) (hv : (isVar y.2 && !oc') = false) {a : Value} : (capF F cap)[i]? ≠ some (some a) := by
  obtain ⟨c, hc, h1⟩ := capOk_at h hy
  unfold capOk1 at h1
  rw [hv] at h1
  simp only [Bool.false_eq_true, if_false, Option.isNone_iff_eq_none] at h1
  subst h1
  unfold capF
  rw [List.getElem?_map, hc]
  simp

theorem comp_core {elt iter : Expr} {x : Str} {px : Pos} {ifs : List Expr} {scope : Scope} {cl : List (Str × Addr)} {pos : Pos} {nm' : List (Str × NameKind)} {oc' : Bool} {cap : List (Option Nat)} {ix : Nat} {A : Around} {E : Value → Shared → Prop} {xs : List Value} {B : List Ent}
    {P : List (Addr × Obj)} {s₂ : Shared} {it : Value} {I : Addr} {fp wr : List Addr} {Pv : Nat → Value → Prop} {Sv : Nat → Heap → Prop} {RR : Value → Addr → Result → Shared → Prop}
    (hA : Room n A) (C : CompOk nm scope nm' oc' cap ix x) (hsz : xs.length ≤ sizeLine)
    (hcl : ∀ y ∈ scope.names, y.2 = .free → cl.lookup y.1 = env.cells.lookup y.1) (hcl0 : oc' = true → cl = [])
    (Inv : Nat → List Value → List Ent → Prop)
    (turn : ∀ cenv i ys H₁ a, Inv i ys H₁ → xs[i]? = some a → WX prog w n mg mb K cenv nm' oc' (testsOf ifs cenv) ((capF F cap).set ix (some a)) H₁ fun ok F₂ H₂ => F₂ = (capF F cap).set ix (some a) ∧
      if ok = true then WE prog w n mg mb K cenv nm' oc' (eval elt cenv) F₂ H₂ fun y H₃ => Inv (i + 1) (ys ++ [y]) H₃ else Inv (i + 1) ys H₂)
    (inv0 : Inv 0 [] H) (hlen : ∀ i ys H₁, Inv i ys H₁ → ys.length ≤ i)
    (st : St mg mb K P env nm oc F H s₂) (J : ItOk prog w A K P env nm oc H it xs s₂ I fp wr Pv Sv) (hfp : ∀ b ∈ fp, Out K env nm oc H b)
    (hAs : Aside K P H wr B s₂)
    (hRR : ∀ D C oC H₁ ys s', s₂.heap.objs.size < C → Inv xs.length ys H₁ → St mg mb K ((C, oC) :: P) env nm oc F (H₁ ++ B ++ [(D, ys)]) s' → (∃ m, s'.heap.Ns C m) → RR (.ref D) C (.ok .next) s') :
    wpAny (model prog w) A (newList []) (fun acc s₃ => wpAny (model prog w) A (newFunctionEnv scope env.globals cl [] env.qual none .none (some env)) (fun cenv s₄ =>
      codeAny (model prog w) A (.compStart (.ListComp elt [⟨.Name x px, iter, ifs, 0⟩] scope pos) 0 it acc { cenv with scope := relabel scope env }) (RR acc cenv.locals) s₄) E s₃) E s₂ := by
  obtain ⟨rfl, W, at0, val, ex, wrK, wrO⟩ := J
  obtain ⟨hB, hBn⟩ := hAs
  refine wpAny_newObj_type (newEnv_comp ?_)
  dsimp only
  generalize hh3 : s₂.heap.push { cls := .type "list", dict := none, data := .seq ([] : List Value).toArray } = h3
  have hs3 : h3.objs.size = s₂.heap.objs.size + 1 := by rw [← hh3, Heap.size_push]
  have h23 : s₂.heap.objs.size < h3.objs.size := by omega
  generalize hh4 : pushCells (h3.push { cls := .type "dict", data := .dict #[] }) scope.names = h4
  -- addresses
  have keep3 : ∀ b o, s₂.heap.get? b = some o → h3.get? b = some o := fun b o e => hh3 ▸ Heap.get?_push_of_some _ e
  have keep4' : ∀ b o, h3.get? b = some o → h4.get? b = some o := fun b o e => hh4 ▸ pushCells_keeps _ _ b o (Heap.get?_push_of_some _ e)
  have keep4 : ∀ b o, s₂.heap.get? b = some o → h4.get? b = some o := fun b o e => keep4' b o (keep3 b o e)
  have hD : h4.PlainList s₂.heap.objs.size #[] := ⟨0, keep4' _ _ (hh3 ▸ Heap.get?_push_size _ rfl)⟩
  have hC : h4.Ns h3.objs.size (fun _ => none) := by
    rw [← hh4]
    exact (Heap.Ns.new h3 (.type "dict")).keeps (pushCells_keeps _ _)
  -- the child's environment
  let cenv : Env := { scope := relabel scope env, locals := h3.objs.size, globals := env.globals, cells := cellsFrom (h3.objs.size + 1) scope.names cl, qual := env.qual, func := none, code := env.code, frame := env.frame, builtins := env.builtins }
  have cok := cellsFrom_ok scope.names (h3.push { cls := .type "dict", data := .dict #[] }) (h3.objs.size + 1) [] ⟨fun _ _ hm => (nomatch hm), List.Pairwise.nil⟩ (by rw [Heap.size_push]; exact Nat.le_refl _)
  rw [Heap.size_push, hh4] at cok
  have nms : (relabel scope env).names = nm' := (relab_is st.ok.kind st.ok.names).trans C.names
  have hKs := st.size
  have cellOwn : oc' = true → ∀ y c, cenv.cells.lookup y = some c → h3.objs.size + 1 ≤ c := fun ho y c hy => by
    have e : cenv.cells = cellsFrom (h3.objs.size + 1) scope.names [] := by show cellsFrom _ _ cl = _; rw [hcl0 ho]
    rw [e] at hy
    exact (cok.empty y c (mem_of_lookup hy)).2
  have eok : EnvOk mg mb K cenv nm' oc' := by
    refine ⟨?_, nms, C.nd, st.ok.glob, st.ok.blt, st.ok.gb, fun ho y c _ hy => ?_, fun ho y z c hy hz => ?_⟩
    · show (relabel scope env).kind = .function
      exact C.kind
    · have := cellOwn ho y c hy; omega
    · have e : cenv.cells = cellsFrom (h3.objs.size + 1) scope.names [] := by show cellsFrom _ _ cl = _; rw [hcl0 ho]
      rw [e] at hy hz
      exact name_of_addr cok.apart (mem_of_lookup hy) (mem_of_lookup hz)
  -- all that stands and is not the frame's own lists nor the iterator
  let PP : List (Addr × Obj) := (List.range s₂.heap.objs.size).filterMap fun b => if b ∈ wr ∨ (∃ e ∈ H, e.1 = b) then none else (s₂.heap.get? b).map fun o => (b, o)
  have inPP : ∀ b o, s₂.heap.get? b = some o → b ∉ wr → (∀ e ∈ H, e.1 ≠ b) → (b, o) ∈ PP := fun b o q1 q2 q3 =>
    List.mem_filterMap.mpr ⟨b, List.mem_range.mpr (Heap.lt_size q1), by
      have hn : ¬ (b ∈ wr ∨ (∃ e ∈ H, e.1 = b)) := fun h => h.elim q2 fun z00 => z00.elim fun e z00 => z00.elim fun he h => q3 e he h
      rw [if_neg hn, q1]; rfl⟩
  have ofPP : ∀ p ∈ PP, s₂.heap.get? p.1 = some p.2 ∧ p.1 ∉ wr ∧ (∀ e ∈ H, e.1 ≠ p.1) ∧ p.1 < s₂.heap.objs.size := by
    intro p hp
    obtain ⟨b, hb, e⟩ := List.mem_filterMap.mp hp
    by_cases q : b ∈ wr ∨ (∃ e ∈ H, e.1 = b)
    · rw [if_pos q] at e; cases e
    · rw [if_neg q] at e
      cases ho : s₂.heap.get? b with
      | none => rw [ho] at e; cases e
      | some o =>
        rw [ho] at e
        cases e
        rw [not_or] at q
        exact ⟨ho, q.1, fun e he h => q.2 ⟨e, he, h⟩, List.mem_range.mp hb⟩
  have hwlt : ∀ b ∈ fp, b < s₂.heap.objs.size := fun b hb => by
    obtain ⟨o, ho, _⟩ := ex 0 s₂.heap at0 b hb
    exact Heap.lt_size ho
  have hcellsHigh : oc' = true → ∀ (i : Nat) (y : Str) (c : Addr), nm'[i]? = some (y, NameKind.cell) → cenv.cells.lookup y = some c → h3.objs.size + 1 ≤ c := fun ho i y c _ hy => cellOwn ho y c hy
  have outLow : ∀ b H₁, b < h3.objs.size → (∀ e ∈ H₁, e.1 ≠ b) → Out K cenv nm' oc' H₁ b := fun b H₁ hb hH => ⟨Nat.ne_of_lt hb, hH, fun ho i y c hy hc => by exact Nat.ne_of_gt (Nat.lt_of_lt_of_le hb (Nat.le_of_succ_le (hcellsHigh ho i y c hy hc)))⟩
  have st4 : St mg mb K PP cenv nm' oc' (capF F cap) H { s₂ with heap := h4, toks := s₂.toks } := by
    obtain ⟨m, f, g⟩ := st.fr
    refine ⟨eok, ⟨_, ⟨hC, fun b o e => keep4 b o (f.keep b o e), by show K.heap.objs.size ≤ h3.objs.size; omega⟩, fun i y a hy ha => ?_⟩, fun i y k hy hk => ?_, fun e he => ⟨(st.led e he).1.at' fun o => keep4 _ o, (st.led e he).2⟩, st.nod, fun p hp => ?_, st.gens, st.os⟩
    · exact absurd ha (capF_none C.cap hy rfl)
    · by_cases ho : oc' = true
      · subst ho
        have hmem : (y, k) ∈ nm' := List.mem_of_getElem? hy
        rw [← C.names] at hmem
        obtain ⟨k', hm, hkk⟩ := mem_relab hmem
        have hmode := C.mode
        simp only [if_true, List.all_eq_true, bne_iff_ne] at hmode
        have hnf := hmode _ hm
        have hk' : k' = .cell := by
          rcases hkk with rfl | ⟨rfl, _⟩
          · rcases hk with rfl | rfl
            · rfl
            · exact absurd rfl hnf
          · exact absurd rfl hnf
        subst hk'
        have hsome := cellsFrom_has scope.names (h3.objs.size + 1) cl y (.inl hm)
        obtain ⟨c, hc⟩ := Option.isSome_iff_exists.mp hsome
        refine ⟨c, none, hc, ?_, fun a ha => ?_⟩
        · rw [hcl0 rfl] at hc
          exact (cok.empty y c (mem_of_lookup hc)).1
        · exact absurd ha (capF_none C.cap hy (by simp))
      · have ho' : oc' = false := by simpa using ho
        subst ho'
        have hmode := C.mode
        simp only [Bool.false_eq_true, if_false, List.all_eq_true, bne_iff_ne] at hmode
        have hcells : cenv.cells = cl := cellsFrom_none _ _ _ fun z hz => hmode z hz
        have hmem : (y, k) ∈ nm' := List.mem_of_getElem? hy
        rw [← C.names] at hmem
        obtain ⟨k', hm, hkk⟩ := mem_relab hmem
        have hk' : k' = .free := by
          rcases hkk with rfl | ⟨rfl, _⟩
          · rcases hk with rfl | rfl
            · exact absurd rfl (hmode _ hm)
            · rfl
          · rfl
        subst hk'
        obtain ⟨c, hc, h1⟩ := capOk_at C.cap hy
        unfold capOk1 at h1
        have hv : (isVar k && !false) = true := by rcases hk with rfl | rfl <;> rfl
        rw [hv] at h1
        simp only [if_true] at h1
        cases c with
        | none => cases h1
        | some j =>
          simp only at h1
          cases hz : nm[j]? with
          | none => rw [hz] at h1; cases h1
          | some z =>
            rw [hz] at h1
            simp only [Bool.and_eq_true, beq_iff_eq] at h1
            obtain ⟨z1, zk⟩ := z
            obtain ⟨h1, h2⟩ := h1
            dsimp only at h1 h2
            subst h1
            have hzk : zk = .cell ∨ zk = .free := by
              unfold isVar at h2
              simpa using h2
            obtain ⟨c, ov, g1, g2, g3⟩ := st.cl j z1 zk hz hzk
            refine ⟨c, ov, ?_, g2.keeps keep4, fun a ha => g3 a ?_⟩
            · rw [hcells, hcl _ hm rfl]; exact g1
            · unfold capF at ha
              rw [List.getElem?_map, hc] at ha
              simp only [Option.map_some, Option.bind_some, Option.some.injEq] at ha
              cases hF : F[j]? with
              | none => rw [hF] at ha; cases ha
              | some o => rw [hF] at ha; simp only [Option.join_some] at ha; rw [ha]
    · obtain ⟨h1, h2, h5, h6⟩ := ofPP p hp
      obtain ⟨o1, o2, o3⟩ := outLow p.1 H (Nat.lt_trans h6 h23) h5
      exact ⟨keep4 _ _ h1, o1, o2, o3⟩
  have sv4 : Sv 0 h4 := W.frame _ _ _ at0 fun b _ o e => keep4 b o e
  -- the loop
  have loop : codeAny (model prog w) A (.compLoop (.ListComp elt [⟨.Name x px, iter, ifs, 0⟩] scope pos) 0 (.ref I) (.ref s₂.heap.objs.size) cenv) (RR (.ref s₂.heap.objs.size) h3.objs.size) { s₂ with heap := h4, toks := s₂.toks } := by
    refine codeAny_compLoop_tests (fun k s => ∃ i ys vs H₁ F₁, St mg mb K PP cenv nm' oc' F₁ H₁ s ∧ (∀ (j : Nat) (a : Value), (capF F cap)[j]? = some (some a) → F₁[j]? = some (some a)) ∧ (capF F cap).length = F₁.length ∧ Sv i s.heap ∧ s.heap.PlainList s₂.heap.objs.size vs ∧ Paired Vm ys vs.toList ∧ Inv i ys H₁ ∧ i ≤ xs.length ∧ k = xs.length + 1 - i ∧
      (∀ b ∈ fp, Out K cenv nm' oc' H₁ b) ∧ (∀ e ∈ H₁, e.1 ≠ s₂.heap.objs.size)) ?_ (xs.length + 1)
      ⟨0, [], #[], H, capF F cap, st4, fun _ _ h => h, rfl, sv4, hD, .nil, inv0, Nat.zero_le _, rfl, fun b hb => outLow b H (Nat.lt_trans (hwlt b hb) h23) (hfp b hb).2.1, fun e he => Nat.ne_of_lt (st.led e he).1.lt⟩
    rintro k s ⟨i, ys, vs, H₁, F₁, stc, hle, hlF, sv, hDl, hpair, inv, hi, rfl, ho, hDH⟩
    have hwr : ∀ b ∈ wr, K.heap.objs.size ≤ b ∧ Out K cenv nm' oc' H₁ b ∧ ∀ p ∈ PP, p.1 ≠ b := fun b hb => ⟨(wrK b hb).1, ho b (W.sub b hb), fun p hp e => (ofPP p hp).2.1 (e ▸ hb)⟩
    have hnc : ∀ b ∈ wr, ∀ ov, ¬ s.heap.IsCell b ov := fun b hb ov z00 => z00.elim fun o z00 => z00.elim fun h1 h2 => by
      obtain ⟨o', h3, h4⟩ := ex i s.heap sv b (W.sub b hb)
      rw [h1] at h3
      cases h3
      exact h4 ov h2
    have hDw : s₂.heap.objs.size ∉ wr := fun h => Nat.lt_irrefl _ (hwlt _ (W.sub _ h))
    by_cases hlt : i < xs.length
    · refine W.item i _ _ _ hlt sv fun v h₂ tk hv sv₂ hk => ?_
      obtain ⟨a, ha⟩ : ∃ a, xs[i]? = some a := ⟨_, List.getElem?_eq_getElem hlt⟩
      have hm := val i v a ha hv
      have st₂ : St mg mb K PP cenv nm' oc' (capF F cap) H₁ { s with heap := h₂, toks := tk } := (stc.but (s' := { s with heap := h₂, toks := tk }) hk stc.gens rfl hwr hnc).less hle
      have hDl₂ : h₂.PlainList s₂.heap.objs.size vs := hDl.at fun o e => hk _ o hDw e
      obtain ⟨nD, hDo⟩ := id hDl₂
      let G : List (Addr × Obj) := (s₂.heap.objs.size, { cls := .type "list", data := .seq vs nD }) :: fp.filterMap fun b => (h₂.get? b).map fun o => (b, o)
      have hG : ∀ p ∈ G, h₂.get? p.1 = some p.2 ∧ Out K cenv nm' oc' H₁ p.1 := by
        intro p hp
        rcases List.mem_cons.mp hp with rfl | hp
        · exact ⟨hDo, outLow _ _ (by show s₂.heap.objs.size < _; omega) hDH⟩
        · obtain ⟨b, hb, e⟩ := List.mem_filterMap.mp hp
          cases ho' : h₂.get? b with
          | none => rw [ho'] at e; cases e
          | some o => rw [ho'] at e; cases e; exact ⟨ho', ho b hb⟩
      have st₃ : St mg mb K (G ++ PP) cenv nm' oc' (capF F cap) H₁ { s with heap := h₂, toks := tk } := ⟨st₂.ok, st₂.fr, st₂.cl, st₂.led, st₂.nod, fun p hp => by
        rcases List.mem_append.mp hp with hp | hp
        · obtain ⟨h1, o1, o2, o3⟩ := hG p hp
          exact ⟨h1, o1, o2, o3⟩
        · exact st₂.pro p hp, st₂.gens, st₂.os⟩
      have hin : ∀ b ∈ fp, ∃ o, (b, o) ∈ G := fun b hb => by
        obtain ⟨o, h1, _⟩ := ex (i + 1) h₂ sv₂ b hb
        exact ⟨o, List.mem_cons_of_mem _ (List.mem_filterMap.mpr ⟨b, hb, by rw [h1]; rfl⟩)⟩
      -- the variable
      obtain ⟨kx, hx, hkx⟩ := C.var
      have wn : WN prog w n mg mb K cenv nm' oc' (assign (.Name x px) cenv) a (capF F cap) H₁ fun F₂ H₂ => F₂ = (capF F cap).set ix (some a) ∧ H₂ = H₁ := by
        rcases hkx with rfl | ⟨rfl, rfl⟩
        · exact wn_assign (wn_local ix hx ⟨rfl, rfl⟩)
        · exact wn_assign (wn_cell ix hx ⟨rfl, rfl⟩)
      refine wn v hm A hA (G ++ PP) _ _ _ st₃ fun _ F₂ H₂ s₄ st₄ z00 => z00.elim fun e1 e2 => ?_
      subst e1 e2
      have hcapx : ∀ (j : Nat) (b : Value), (capF F cap)[j]? = some (some b) → ((capF F cap).set ix (some a))[j]? = some (some b) := fun j b hj => by
        by_cases q : ix = j
        · subst q
          exact absurd hj (capF_none C.cap hx (by rcases hkx with rfl | ⟨rfl, rfl⟩ <;> rfl))
        · rw [List.getElem?_set_ne q]; exact hj
      have post : ∀ (ys' : List Value) (H' : List Ent) (s₅ : Shared), St mg mb K (G ++ PP) cenv nm' oc' ((capF F cap).set ix (some a)) H' s₅ → St mg mb K PP cenv nm' oc' ((capF F cap).set ix (some a)) H' s₅ ∧ Sv (i + 1) s₅.heap ∧ s₅.heap.PlainList s₂.heap.objs.size vs ∧ (∀ b ∈ fp, Out K cenv nm' oc' H' b) ∧ ∀ e ∈ H', e.1 ≠ s₂.heap.objs.size := by
        intro ys' H' s₅ st₅
        refine ⟨⟨st₅.ok, st₅.fr, st₅.cl, st₅.led, st₅.nod, fun p hp => st₅.pro p (List.mem_append_right _ hp), st₅.gens, st₅.os⟩, W.frame _ _ _ sv₂ fun b hb o e => ?_, ⟨nD, (st₅.pro _ (List.mem_append_left _ List.mem_cons_self)).1⟩, fun b hb => ?_,
          (st₅.pro _ (List.mem_append_left _ List.mem_cons_self)).2.2.1⟩
        · obtain ⟨o', hm'⟩ := hin b hb
          have h1 := (hG _ hm').1
          rw [h1] at e
          cases e
          exact (st₅.pro _ (List.mem_append_left _ hm')).1
        · obtain ⟨o', hm'⟩ := hin b hb
          exact (st₅.pro _ (List.mem_append_left _ hm')).2
      refine turn cenv i ys H₂ a inv ha A hA (G ++ PP) s₄ _ _ st₄ fun ok F₅ H₅ s₅ st₅ z00 => z00.elim fun e5 q => ?_
      subst e5
      by_cases hok : ok = true
      · rw [if_pos hok] at q
        rw [if_pos hok]
        refine q A hA (G ++ PP) s₅ _ _ st₅ fun y F₆ H₆ s₆ st₆ z00 => z00.elim fun e6 z00 => z00.elim fun b z00 => z00.elim fun hb q₆ => ?_
        subst e6
        obtain ⟨p1, p2, p3, p4, p5⟩ := post ys H₆ s₆ st₆
        have hys : ys.length ≤ xs.length := Nat.le_trans (hlen _ _ _ inv) (Nat.le_of_lt hlt)
        have hvs : vs.size = ys.length := by have := Paired.len hpair; simpa using this.symm
        refine wpAny_list_append_plain p3 (fun h₇ hl₇ hs₇ => ?_) (hsz := by omega)
        have hDK : K.heap.objs.size ≤ s₂.heap.objs.size := hKs
        have st₇ : St mg mb K PP cenv nm' oc' ((capF F cap).set ix (some a)) H₆ { s₆ with heap := h₇ } := by
          refine p1.but (s' := { s₆ with heap := h₇ }) (wr := [s₂.heap.objs.size]) (fun b o hb e => (hs₇.2 b (by simpa using hb)).trans e) p1.gens rfl (fun b hb => ?_) fun b hb ov hc => ?_
          · rw [List.mem_singleton.mp hb]
            exact ⟨hDK, outLow _ _ (by omega) p5, fun p hp e => Nat.lt_irrefl _ (e ▸ (ofPP p hp).2.2.2)⟩
          · rw [List.mem_singleton.mp hb] at hc
            obtain ⟨o, h1, h2⟩ := hc
            obtain ⟨k3, h3'⟩ := p3
            rw [h1] at h3'
            cases h3'
            cases h2
        exact ⟨xs.length + 1 - (i + 1), by omega, i + 1, ys ++ [b], vs.push y, H₆, _, st₇, hcapx, by rw [List.length_set], W.frame _ _ _ p2 fun b' hb' o e => (hs₇.2 b' (Nat.ne_of_lt (hwlt b' hb'))).trans e, hl₇, by
          rw [Array.toList_push]; exact Paired.snoc hpair hb, q₆, hlt, rfl, p4, p5⟩
      · rw [if_neg hok] at q
        rw [if_neg hok]
        obtain ⟨p1, p2, p3, p4, p5⟩ := post ys H₅ s₅ st₅
        exact ⟨xs.length + 1 - (i + 1), by omega, i + 1, ys, vs, H₅, _, p1, hcapx, by rw [List.length_set], p2, p3, hpair, q, hlt, rfl, p4, p5⟩
    · have e : i = xs.length := by omega
      subst e
      refine W.done _ _ _ sv fun h₂ tk hk => ?_
      have st₂ : St mg mb K PP cenv nm' oc' F₁ H₁ { s with heap := h₂, toks := tk } := stc.but (s' := { s with heap := h₂, toks := tk }) hk stc.gens rfl hwr hnc
      have hDl₂ : h₂.PlainList s₂.heap.objs.size vs := hDl.at fun o e => hk _ o hDw e
      obtain ⟨mC, fC, gC⟩ := st₂.fr
      obtain ⟨oC, hoC⟩ : ∃ oC, h₂.get? h3.objs.size = some oC := let ⟨o, _, _, e, _⟩ := fC.ns; ⟨o, e⟩
      have upP : ∀ b o, s₂.heap.get? b = some o → b ∉ wr → (∀ e ∈ H, e.1 ≠ b) → h₂.get? b = some o ∧ ∀ e ∈ H₁, e.1 ≠ b := fun b o h1 h2 h5 => ⟨(st₂.pro _ (inPP b o h1 h2 h5)).1, (st₂.pro _ (inPP b o h1 h2 h5)).2.2.1⟩
      refine hRR s₂.heap.objs.size h3.objs.size oC H₁ ys _ h23 inv ?_ ⟨mC, fC.ns⟩
      obtain ⟨m, f, g⟩ := st.fr
      have hLw : env.locals ∉ wr := fun h => (wrO _ h).1 rfl
      have hLH : ∀ e ∈ H, e.1 ≠ env.locals := fun e he => st.kindne he
      have cellUp : ∀ c ov, s₂.heap.IsCell c ov → h₂.IsCell c ov := fun c ov hc => by
        obtain ⟨o, h1, h2⟩ := id hc
        refine ⟨o, (upP c o h1 (fun hw => ?_) fun e he => st.cellne he hc).1, h2⟩
        obtain ⟨o', h5, h6⟩ := ex 0 s₂.heap at0 c (W.sub c hw)
        rw [h1] at h5
        cases h5
        exact h6 ov h2
      refine ⟨st.ok, ⟨m, ⟨?_, fun b o e => fC.keep b o e, f.above⟩, g⟩, fun j y k hy hk' => ?_, fun e he => ?_, ?_, fun p hp => ?_, st₂.gens, st₂.os⟩
      · obtain ⟨o, es, ep, h1, h2⟩ := f.ns
        exact ⟨o, es, ep, (upP _ o h1 hLw hLH).1, h2⟩
      · obtain ⟨c, ov, h1, h2, h5⟩ := st.cl j y k hy hk'
        exact ⟨c, ov, h1, cellUp c ov h2, h5⟩
      · rcases List.mem_append.mp he with he | he
        · rcases List.mem_append.mp he with he | he
          · exact st₂.led e he
          · obtain ⟨b1, b2, b3, b4, b5⟩ := hB e he
            refine ⟨?_, b2⟩
            obtain ⟨vs', ⟨k', hk'⟩, hp'⟩ := b1
            exact ⟨vs', ⟨k', (upP _ _ hk' b3 b4).1⟩, hp'⟩
        · rw [List.mem_singleton.mp he]
          exact ⟨⟨vs, hDl₂, hpair⟩, hKs⟩
      · have hBH : ∀ e ∈ B, ∀ e' ∈ H₁, e'.1 ≠ e.1 := fun e he => by
          obtain ⟨b1, b2, b3, b4, b5⟩ := hB e he
          obtain ⟨vs', ⟨k', hk'⟩, hp'⟩ := b1
          exact (upP _ _ hk' b3 b4).2
        rw [List.map_append, List.map_append, List.nodup_append, List.nodup_append]
        refine ⟨⟨st₂.nod, hBn, fun a ha b hb e => ?_⟩, by simp, fun a ha b hb e => ?_⟩
        · obtain ⟨e1, g1, rfl⟩ := List.mem_map.mp ha
          obtain ⟨e2, g2, rfl⟩ := List.mem_map.mp hb
          exact hBH e2 g2 e1 g1 e
        · simp only [List.map_cons, List.map_nil, List.mem_singleton] at hb
          subst hb
          rcases List.mem_append.mp ha with ha | ha
          · obtain ⟨e1, g1, rfl⟩ := List.mem_map.mp ha
            exact hDH e1 g1 e
          · obtain ⟨e1, g1, rfl⟩ := List.mem_map.mp ha
            exact absurd (hB e1 g1).1.lt (by rw [e]; exact Nat.lt_irrefl _)
      · have hLlt : env.locals < s₂.heap.objs.size := f.ns.lt
        rcases List.mem_cons.mp hp with rfl | hp
        · refine ⟨hoC, Nat.ne_of_gt (Nat.lt_trans hLlt h23), fun e he => ?_, fun ho' j y c hy hc => ?_⟩
          · rcases List.mem_append.mp he with he | he
            · rcases List.mem_append.mp he with he | he
              · exact st₂.kindne he
              · exact Nat.ne_of_lt (Nat.lt_trans (hB e he).1.lt h23)
            · rw [List.mem_singleton.mp he]
              exact Nat.ne_of_lt h23
          · obtain ⟨c', ov, h1, h2, h5⟩ := st.cl j y .cell hy (.inl rfl)
            rw [hc] at h1
            cases h1
            exact Nat.ne_of_lt (Nat.lt_trans h2.lt h23)
        · obtain ⟨q1, q2, q3, q4⟩ := st.pro p hp
          have hpw : p.1 ∉ wr := fun h => (wrK _ h).2 p hp rfl
          obtain ⟨u1, u2⟩ := upP _ _ q1 hpw q3
          refine ⟨u1, q2, fun e he => ?_, q4⟩
          rcases List.mem_append.mp he with he | he
          · rcases List.mem_append.mp he with he | he
            · exact u2 e he
            · exact fun h => (hB e he).2.2.2.2 p hp h.symm
          · rw [List.mem_singleton.mp he]
            exact Nat.ne_of_gt (Heap.lt_size q1)
  exact codeAny_compStart_list loop (W.self 0 _ _ _ sv4 loop)

theorem comp_clos {P : List (Addr × Obj)} {s : Shared} {scope : Scope} {nm' : List (Str × NameKind)} {oc' : Bool} {cap : List (Option Nat)} {ix : Nat} {x : Str} (st : St mg mb K P env nm oc F H s) (C : CompOk nm scope nm' oc' cap ix x) :
    ∃ cl, closureFor scope env = pure cl ∧ (∀ y ∈ scope.names, y.2 = .free → cl.lookup y.1 = env.cells.lookup y.1) ∧ (oc' = true → cl = []) := by
  by_cases ho : oc' = true
  · subst ho
    have hm := C.mode
    simp only [if_true, List.all_eq_true, bne_iff_ne] at hm
    exact ⟨[], closureFor_none fun y hy => hm y hy, fun y hy hf => absurd hf (hm y hy), fun _ => rfl⟩
  · have ho' : oc' = false := by simpa using ho
    subst ho'
    obtain ⟨cl, h1, h2⟩ := closure_ok (scope := scope) (env := env) fun y hy hf => by
      obtain ⟨y1, y2⟩ := y
      dsimp only at hf
      subst hf
      have hmem : ∃ k, (y1, k) ∈ nm' ∧ (k = .cell ∨ k = .free) := by
        rw [← C.names]
        unfold relab
        by_cases hc : (NameKind.free == NameKind.free && nm.lookup y1 == some .cell) = true
        · exact ⟨.cell, List.mem_map.mpr ⟨_, hy, by simp only [hc, if_true]⟩, .inl rfl⟩
        · exact ⟨.free, List.mem_map.mpr ⟨_, hy, by simp only [hc]; rfl⟩, .inr rfl⟩
      obtain ⟨k, hmem, hk⟩ := hmem
      obtain ⟨i, hi⟩ := List.mem_iff_getElem?.mp hmem
      obtain ⟨c, hc, h1⟩ := capOk_at C.cap hi
      unfold capOk1 at h1
      have hv : (isVar k && !false) = true := by rcases hk with rfl | rfl <;> rfl
      rw [hv] at h1
      simp only [if_true] at h1
      cases c with
      | none => cases h1
      | some j =>
        simp only at h1
        cases hz : nm[j]? with
        | none => rw [hz] at h1; cases h1
        | some z =>
          rw [hz] at h1
          simp only [Bool.and_eq_true, beq_iff_eq] at h1
          obtain ⟨z1, zk⟩ := z
          obtain ⟨h1, h2⟩ := h1
          dsimp only at h1 h2
          subst h1
          have hzk : zk = .cell ∨ zk = .free := by
            unfold isVar at h2
            simpa using h2
          obtain ⟨c, ov, g1, _⟩ := st.cl j z1 zk hz hzk
          rw [g1]; rfl
    exact ⟨cl, h1, h2, fun h => by cases h⟩

/-- a state whose comprehension's frame goes -/
theorem St.noC {P : List (Addr × Obj)} {s : Shared} {C : Addr} {oC : Obj} {h' : Heap} (st : St mg mb K ((C, oC) :: P) env nm oc F H s) (hP : ∀ p ∈ P, p.1 ≠ C) (hK : K.heap.objs.size ≤ C) (hnc : ∀ ov, oC.data ≠ .cell ov) (hs : Heap.SameBut C s.heap h') : St mg mb K P env nm oc F H { s with heap := h' } := by
  obtain ⟨q1, q2, q3, q4⟩ := st.pro _ List.mem_cons_self
  have st' : St mg mb K P env nm oc F H s := ⟨st.ok, st.fr, st.cl, st.led, st.nod, fun p hp => st.pro p (List.mem_cons_of_mem _ hp), st.gens, st.os⟩
  refine st'.but (s' := { s with heap := h' }) (wr := [C]) (fun b o hb e => (hs.2 b (by simpa using hb)).trans e) st.gens rfl (fun b hb => ?_) fun b hb ov hc => ?_
  · rw [List.mem_singleton.mp hb]
    exact ⟨hK, ⟨q2, q3, q4⟩, hP⟩
  · rw [List.mem_singleton.mp hb] at hc
    obtain ⟨o, h1, h2⟩ := hc
    rw [q1] at h1
    cases h1
    exact hnc ov h2

theorem St.notCell {P : List (Addr × Obj)} {s : Shared} {C : Addr} {oC : Obj} {m : Str → Option Value} (st : St mg mb K ((C, oC) :: P) env nm oc F H s) (hm : s.heap.Ns C m) : ∀ ov, oC.data ≠ .cell ov := by
  obtain ⟨o, es, ep, h1, h2, _⟩ := hm
  rw [(st.pro _ List.mem_cons_self).1] at h1
  cases h1
  intro ov h
  rw [h] at h2
  cases h2

/-- a comprehension as a value -/
theorem we_Comp {elt iter : Expr} {x : Str} {px : Pos} {ifs : List Expr} {scope : Scope} {pos : Pos} {nm' : List (Str × NameKind)} {oc' : Bool} {cap : List (Option Nat)} {ix : Nat} {xs : List Value} {Q : Value → List Ent → Prop}
    (C : CompOk nm scope nm' oc' cap ix x) (hsz : xs.length ≤ sizeLine) (Inv : Nat → List Value → List Ent → Prop) (Fin : List Value → List Ent → List Ent → Prop)
    (start : WI prog w n mg mb K env nm oc (eval iter env) F H xs fun H' B => Inv 0 [] H' ∧ ∀ ys H₁, Inv xs.length ys H₁ → Fin ys H₁ B)
    (turn : ∀ cenv i ys H₁ a, Inv i ys H₁ → xs[i]? = some a → WX prog w n mg mb K cenv nm' oc' (testsOf ifs cenv) ((capF F cap).set ix (some a)) H₁ fun ok F₂ H₂ => F₂ = (capF F cap).set ix (some a) ∧
      if ok = true then WE prog w n mg mb K cenv nm' oc' (eval elt cenv) F₂ H₂ fun y H₃ => Inv (i + 1) (ys ++ [y]) H₃ else Inv (i + 1) ys H₂)
    (hlen : ∀ i ys H₁, Inv i ys H₁ → ys.length ≤ i)
    (fin : ∀ ys H₁ B D, Fin ys H₁ B → Q (.ref D) (H₁ ++ B ++ [(D, ys)]))
    (hs : ∀ x, foldedSetIterable iter env x = pure x) : WE prog w n mg mb K env nm oc (eval (.ListComp elt [⟨.Name x px, iter, ifs, 0⟩] scope pos) env) F H Q := by
  intro A hA P s E R st hR
  obtain ⟨cl, hc1, hc2, hc3⟩ := comp_clos st C
  rw [eval_ListComp]
  refine wpAny_comprehension_free (use := none) rfl hs hc1 C.kind C.kindLocal ?_
  refine start A hA P s _ _ st fun it H' B s₂ I fp wr Pv Sv st₂ J hfp hB q => ?_
  refine comp_core (B := B) (RR := fun acc C => compPost (model prog w) A E none R acc C) hA C hsz hc2 hc3 Inv turn q.1 hlen st₂ J hfp hB ?_
  rintro D C oC H₁ ys s' hC inv st' ⟨m, hm⟩
  refine ⟨m, hm, fun h' hs' => ?_⟩
  exact hR _ _ _ _ (st'.noC (fun p hp => Nat.ne_of_lt (Nat.lt_trans (Heap.lt_size (st₂.pro p hp).1) hC)) (Nat.le_of_lt (Nat.lt_of_le_of_lt st₂.size hC)) (st'.notCell hm) hs') ⟨rfl, _, Vm.refl _, fin ys H₁ B D (q.2 ys H₁ inv)⟩

/-- a comprehension that is stored in a local name -/
theorem ws_AssignComp {elt iter : Expr} {x y : Str} {px py : Pos} {ifs : List Expr} {scope : Scope} {pos spos : Pos} {nm' : List (Str × NameKind)} {oc' : Bool} {cap : List (Option Nat)} {ix : Nat} {xs : List Value} {Q : Flow → List (Option Value) → List Ent → Prop}
    (C : CompOk nm scope nm' oc' cap ix x) (hsz : xs.length ≤ sizeLine) (Inv : Nat → List Value → List Ent → Prop) (Fin : List Value → List Ent → List Ent → Prop) (iy : Nat) (hy : nm[iy]? = some (y, .local))
    (hsw : ∀ P s, St mg mb K P env nm oc F H s → swapsWith (.ListComp elt [⟨.Name x px, iter, ifs, 0⟩] scope pos) (some (.Name y py)) spos.line env = pure true)
    (start : WI prog w n mg mb K env nm oc (eval iter env) F H xs fun H' B => Inv 0 [] H' ∧ ∀ ys H₁, Inv xs.length ys H₁ → Fin ys H₁ B)
    (turn : ∀ cenv i ys H₁ a, Inv i ys H₁ → xs[i]? = some a → WX prog w n mg mb K cenv nm' oc' (testsOf ifs cenv) ((capF F cap).set ix (some a)) H₁ fun ok F₂ H₂ => F₂ = (capF F cap).set ix (some a) ∧
      if ok = true then WE prog w n mg mb K cenv nm' oc' (eval elt cenv) F₂ H₂ fun y H₃ => Inv (i + 1) (ys ++ [y]) H₃ else Inv (i + 1) ys H₂)
    (hlen : ∀ i ys H₁, Inv i ys H₁ → ys.length ≤ i)
    (fin : ∀ ys H₁ B D, Fin ys H₁ B → Q .next (F.set iy (some (.ref D))) (H₁ ++ B ++ [(D, ys)]))
    (hs : ∀ x, foldedSetIterable iter env x = pure x) : WS prog w n mg mb K env nm oc (exec (.Assign [.Name y py] (.ListComp elt [⟨.Name x px, iter, ifs, 0⟩] scope pos) spos) env) F H Q := by
  intro A hA P s E R st hR
  obtain ⟨cl, hc1, hc2, hc3⟩ := comp_clos st C
  rw [exec_Assign_Name_used _ _ _ _ (hsw P s st)]
  refine wpAny_bind (wpAny_standAt (wpAny_bind ?_))
  show wpAny _ A (do let _ ← comprehension (.ListComp elt [⟨.Name x px, iter, ifs, 0⟩] scope pos) scope env _ (newList []) false (eval iter env) (some (assign (.Name y py) env))) _ _ s
  refine wpAny_bind (wpAny_mono (wpAny_comprehension_free (use := some (assign (.Name y py) env)) (Q := fun _ s' => R .next s') rfl hs hc1 C.kind C.kindLocal ?_) (fun _ s' hq => wpAny_pure (wpAny_pure hq)) fun _ _ e => e)
  refine start A hA P s _ _ st fun it H' B s₂ I fp wr Pv Sv st₂ J hfp hB q => ?_
  refine comp_core (B := B) (RR := fun acc C => compPost (model prog w) A E (some (assign (.Name y py) env)) (fun _ s' => R .next s') acc C) hA C hsz hc2 hc3 Inv turn q.1 hlen st₂ J hfp hB ?_
  rintro D C oC H₁ ys s' hC inv st' ⟨m, hm⟩
  have hP : ∀ p ∈ P, p.1 ≠ C := fun p hp => Nat.ne_of_lt (Nat.lt_trans (Heap.lt_size (st₂.pro p hp).1) hC)
  have hK : K.heap.objs.size ≤ C := Nat.le_of_lt (Nat.lt_of_le_of_lt st₂.size hC)
  have hq := (st'.pro _ List.mem_cons_self).1
  have wn : WN prog w n mg mb K env nm oc (assign (.Name y py) env) (.ref D) F (H₁ ++ B ++ [(D, ys)]) fun F' H' => F' = F.set iy (some (.ref D)) ∧ H' = H₁ ++ B ++ [(D, ys)] := wn_assign (wn_local iy hy ⟨rfl, rfl⟩)
  show wpAny _ A (assign (.Name y py) env (.ref D)) _ _ _
  refine wn _ rfl A hA _ _ _ _ st' fun _ F' H' s₅ st₅ z00 => z00.elim fun e1 e2 => ?_
  subst e1 e2
  have hq₅ := (st₅.pro _ List.mem_cons_self).1
  obtain ⟨o, es, ep, h1, h2, h3⟩ := id hm
  rw [hq] at h1
  cases h1
  refine ⟨m, ⟨_, es, ep, hq₅, h2, h3⟩, fun h' hs' => ?_⟩
  exact hR _ _ _ _ (st₅.noC hP hK (st'.notCell hm) hs') ⟨.next, rfl, fin ys H₁ B D (q.2 ys H₁ inv)⟩

/-- no test, one test -/
theorem wx_noTest {Q : Bool → List (Option Value) → List Ent → Prop} (h : Q true F H) : WX prog w n mg mb K env nm oc (testsOf [] env) F H Q :=
  fun A hA P s E R st hR => by
    unfold testsOf
    rw [List.forIn_nil]
    exact wpAny_pure (hR _ _ _ _ st h)
theorem wx_oneTest {c : Expr} {Q : Bool → List (Option Value) → List Ent → Prop} (h : WT prog w n mg mb K env nm oc (isTrue c env (eval c env)) F H fun b H' => Q b F H') : WX prog w n mg mb K env nm oc (testsOf [c] env) F H Q :=
  fun A hA P s E R st hR => by
    unfold testsOf
    rw [List.forIn_cons]
    simp only [if_true]
    refine wpAny_bind (wpAny_bind (h A hA P s E _ st fun b F' H' s₁ st₁ z00 => z00.elim fun e q => wpAny_pure ?_))
    subst e
    show wpAny _ A (forIn [] b _) R E s₁
    rw [List.forIn_nil]
    exact wpAny_pure (hR _ _ _ _ st₁ q)
end
end Mine
end

section
open PySem PySem.W PyProof.Rows
set_option Elab.async false
set_option linter.unusedVariables false
namespace Mine
section
variable {prog : Program} {w : World} {n : Nat} {mg mb : Str → Option Value} {K : Shared} {env : Env} {nm : List (Str × NameKind)} {oc : Bool} {F : List (Option Value)} {H : List Ent}

theorem St.fresh {P : List (Addr × Obj)} {s : Shared} (st : St mg mb K P env nm oc F H s) {b : Addr} (hb : s.heap.objs.size ≤ b) : K.heap.objs.size ≤ b ∧ Out K env nm oc H b ∧ ∀ p ∈ P, p.1 ≠ b := by
  refine ⟨Nat.le_trans st.size hb, ⟨?_, fun e he => Nat.ne_of_lt (Nat.lt_of_lt_of_le (st.led e he).1.lt hb), fun ho i x c hx hc => ?_⟩, fun p hp => Nat.ne_of_lt (Nat.lt_of_lt_of_le (Heap.lt_size (st.pro p hp).1) hb)⟩
  · obtain ⟨m, f, _⟩ := st.fr
    exact Nat.ne_of_gt (Nat.lt_of_lt_of_le f.ns.lt hb)
  · obtain ⟨c', ov, h1, h2, _⟩ := st.cl i x .cell hx (.inl rfl)
    rw [hc] at h1
    cases h1
    exact Nat.ne_of_lt (Nat.lt_of_lt_of_le h2.lt hb)
theorem St.out_low {P : List (Addr × Obj)} {s : Shared} (st : St mg mb K P env nm oc F H s) {b : Addr} (hb : b < K.heap.objs.size) : Out K env nm oc H b := by
  obtain ⟨m, f, _⟩ := st.fr
  refine ⟨Nat.ne_of_lt (Nat.lt_of_lt_of_le hb f.above), fun e he => Nat.ne_of_gt (Nat.lt_of_lt_of_le hb (st.led e he).2), fun ho i x c hx hc => ?_⟩
  exact Nat.ne_of_gt (Nat.lt_of_lt_of_le hb (st.ok.own ho x c (lookup_of_get st.ok.nd hx) hc))

/-! what can be walked -/
noncomputable def rangeVals (a : Int) (k : Nat) : List Value := (List.range k).map fun (j : Nat) => I (a + j)
theorem rangeVals_length (a : Int) (k : Nat) : (rangeVals a k).length = k := by simp [rangeVals]
theorem rangeVals_get {a : Int} {k i : Nat} {v : Value} (h : (rangeVals a k)[i]? = some v) : i < k ∧ v = I (a + i) := by
  unfold rangeVals at h
  rw [List.getElem?_map] at h
  by_cases hi : i < k
  · rw [List.getElem?_range hi] at h
    exact ⟨hi, by simpa using h.symm⟩
  · rw [List.getElem?_eq_none (by simpa using hi)] at h
    cases h

/-- a range object that nothing else knows, walked -/
theorem wi_range_obj {A : Around} (hA : Room n A) {P : List (Addr × Obj)} {s : Shared} (st : St mg mb K P env nm oc F H s) {a b : Int} {t u v : Tok} {Q : List Ent → List Ent → Prop} {E R : Value → Shared → Prop} (tk : Nat)
    (h1 : -(2 ^ 62) ≤ a) (h2 : a < 2 ^ 62) (h3 : -(2 ^ 62) ≤ b) (h4 : b < 2 ^ 62) (q : Q H [])
    (hR : ∀ it H' B s' I fp wr Pv Sv, St mg mb K P env nm oc F H' s' → ItOk prog w A K P env nm oc H' it (rangeVals a (b - a).toNat) s' I fp wr Pv Sv → (∀ b ∈ fp, Out K env nm oc H' b) → Aside K P H' wr B s' → Q H' B → R it s') :
    wpAny (model prog w) A (pyIter (.ref s.heap.objs.size)) R E { s with heap := s.heap.push { cls := .type "range", data := .fields #[.int a t, .int b u, .int 1 v] }, toks := tk } := by
  refine wpAny_pyIter_range (a := a) (b := b) (c := 1) (t := t) (u := u) (v := v) (Heap.get?_push_size _ rfl) (small_one h1 h2 h3 h4) ?_
  generalize ho1 : ({ cls := .type "range", data := .fields #[.int a t, .int b u, .int 1 v] } : Obj) = o1
  generalize ho2 : ({ cls := .type "range_iterator", data := .fields #[rawInt a, rawInt (Builtin.Range.rangeSize a b 1), rawInt 1] } : Obj) = o2
  have st' : St mg mb K P env nm oc F H { s with heap := (s.heap.push o1).push o2, toks := tk } := st.kept (s' := { s with heap := (s.heap.push o1).push o2, toks := tk }) (fun b o e => Heap.get?_push_of_some _ (Heap.get?_push_of_some _ e)) st.gens rfl
  have hf := st.fresh (b := (s.heap.push o1).objs.size) (by rw [Heap.size_push]; exact Nat.le_succ _)
  refine hR _ _ [] _ (s.heap.push o1).objs.size [(s.heap.push o1).objs.size] [(s.heap.push o1).objs.size] _ _ st' ⟨rfl, by rw [rangeVals_length]; exact Walks.range hA.1 _ a 1 _, ?_, ?_, ?_, ?_, ?_⟩ ?_ ⟨fun e he => (nomatch he), List.nodup_nil⟩ q
  · show IsRangeIter ((s.heap.push o1).push o2) _ (a + ((0 : Nat) : Int) * 1) ((((b - a).toNat : Nat) : Int) - ((0 : Nat) : Int)) 1
    have e : Builtin.Range.rangeSize a b 1 = (((b - a).toNat : Nat) : Int) - ((0 : Nat) : Int) := by rw [rangeSize_nat]; simp
    have e2 : a + ((0 : Nat) : Int) * 1 = a := by simp
    rw [e2, ← e]
    subst ho2
    exact Heap.get?_push_size _ rfl
  · rintro i v x hx ⟨t, rfl⟩
    obtain ⟨_, rfl⟩ := rangeVals_get hx
    exact ⟨t, by rw [Int.mul_one]⟩
  · intro i h hi b hb
    rw [List.mem_singleton.mp hb]
    exact ⟨_, hi, fun ov h => by cases h⟩
  · intro b hb
    rw [List.mem_singleton.mp hb]
    exact ⟨hf.1, hf.2.2⟩
  · intro b hb
    rw [List.mem_singleton.mp hb]
    exact hf.2.1
  · intro b hb
    rw [List.mem_singleton.mp hb]
    exact hf.2.1

theorem wi_range1 {id : Str} {p pos : Pos} {e : Expr} {k : Int} {Q : List Ent → List Ent → Prop}
    (hn : WE prog w n mg mb K env nm oc (eval (.Name id p) env) F H fun f H₁ => f = .type "range" ∧ H₁ = H)
    (he : starEach [e] env = (false, eval e env) :: starEach [] env)
    (h : WE prog w n mg mb K env nm oc (eval e env) F H fun a H₁ => a = I k ∧ -(2 ^ 62) ≤ k ∧ k < 2 ^ 62 ∧ Q H₁ []) :
    WI prog w n mg mb K env nm oc (eval (.Call (.Name id p) [e] [] pos) env) F H (rangeVals 0 k.toNat) Q := by
  intro A hA P s E R st hR
  refine wpAny_Call_NameR (hn A hA P s E _ st fun v F' H' s₁ st₁ ⟨e1, a, ha, q1, q2⟩ => ?_)
  subst e1 q1 q2
  cases ha
  refine PyProof.Rows.callWith_type1 (wpAny_items_cons (h A hA P s₁ E _ st₁ fun v F' H' s₂ st₂ ⟨e1, a, ha, q1, q2, q3, q4⟩ => wpAny_items_nil ?_) he) he
  subst e1 q1
  obtain ⟨t, rfl⟩ := ha
  refine call_range_1 ?_
  refine wi_range_obj hA st₂ (a := 0) (b := k) (s₂.toks + 1 + 1) (by decide) (by decide) q2 q3 q4 ?_
  simpa using hR

theorem wi_range2 {id : Str} {p pos : Pos} {e₁ e₂ : Expr} {i k : Int} {Q : List Ent → List Ent → Prop}
    (hn : WE prog w n mg mb K env nm oc (eval (.Name id p) env) F H fun f H₁ => f = .type "range" ∧ H₁ = H)
    (he : starEach [e₁, e₂] env = (false, eval e₁ env) :: starEach [e₂] env) (he' : starEach [e₂] env = (false, eval e₂ env) :: starEach [] env)
    (hp : (backTo pos (starEach [e₂] env)).any (·.1) = false)
    (h : WE prog w n mg mb K env nm oc (eval e₁ env) F H fun a H₁ => a = I i ∧ -(2 ^ 62) ≤ i ∧ i < 2 ^ 62 ∧ WE prog w n mg mb K env nm oc (eval e₂ env) F H₁ fun b H₂ => b = I k ∧ -(2 ^ 62) ≤ k ∧ k < 2 ^ 62 ∧ Q H₂ []) :
    WI prog w n mg mb K env nm oc (eval (.Call (.Name id p) [e₁, e₂] [] pos) env) F H (rangeVals i (k - i).toNat) Q := by
  intro A hA P s E R st hR
  refine wpAny_Call_NameR (hn A hA P s E _ st fun v F' H' s₁ st₁ ⟨e1, a, ha, q1, q2⟩ => ?_)
  subst e1 q1 q2
  cases ha
  refine PyProof.Rows.callWith_type1 (wpAny_items_cons (h A hA P s₁ E _ st₁ fun v F' H' s₂ st₂ ⟨e1, a, ha, q1, q2, q3, q4⟩ => ?_) he) he (hplain := hp)
  subst e1 q1
  obtain ⟨t, rfl⟩ := ha
  refine wpAny_items_cons (q4 A hA P s₂ E _ st₂ fun v F' H' s₃ st₃ ⟨e1, a, ha, q5, q6, q7, q8⟩ => wpAny_items_nil ?_) he'
  subst e1 q5
  obtain ⟨u, rfl⟩ := ha
  refine call_range_2 ?_
  exact wi_range_obj hA st₃ (a := i) (b := k) (s₃.toks + 1) q2 q3 q6 q7 q8 hR

/-- a list that stood before the frame -/
theorem wi_listK {iter : Expr} {a : Addr} {xs : List Value} {Q : List Ent → List Ent → Prop} (hr : RdAt K.heap a xs)
    (h : WE prog w n mg mb K env nm oc (eval iter env) F H fun v H₁ => v = .ref a ∧ Q H₁ []) : WI prog w n mg mb K env nm oc (eval iter env) F H xs Q := by
  intro A hA P s E R st hR
  refine h A hA P s E _ st fun v F' H' s₁ st₁ ⟨e1, b, hb, q1, q2⟩ => ?_
  subst e1 q1
  cases hb
  obtain ⟨vs, hl, hp⟩ := hr.at' (h' := s₁.heap) fun o e => st₁.keep _ o e
  have ha : a < K.heap.objs.size := hr.lt
  refine wpAny_pyIter_list hl ?_
  generalize ho2 : ({ cls := .type "list_iterator", data := .fields #[.ref a, .int 0 0] } : Obj) = o2
  have st' : St mg mb K P env nm oc F' H' { s₁ with heap := s₁.heap.push o2 } := st₁.kept (s' := { s₁ with heap := s₁.heap.push o2 }) (fun b o e => Heap.get?_push_of_some _ e) st₁.gens rfl
  have hf := st₁.fresh (b := s₁.heap.objs.size) (Nat.le_refl _)
  have hne : a ≠ s₁.heap.objs.size := Nat.ne_of_lt (Nat.lt_of_lt_of_le ha st₁.size)
  have hsz : vs.size = xs.length := by have := Paired.len hp; simpa using this.symm
  refine hR _ _ [] _ s₁.heap.objs.size [s₁.heap.objs.size, a] [s₁.heap.objs.size] _ _ st' ⟨rfl, hsz ▸ Walks.list hA.1 _ a hne vs, ?_, ?_, ?_, ?_, ?_⟩ ?_ ⟨fun e he => (nomatch he), List.nodup_nil⟩ q2
  · refine ⟨⟨o2, Heap.get?_push_size _ (by subst ho2; rfl), by subst ho2; rfl, by subst ho2; rfl⟩, ?_⟩
    obtain ⟨o, h1, h2⟩ := hl
    exact ⟨o, Heap.get?_push_of_some _ h1, h2⟩
  · intro i v x hx hv
    obtain ⟨v', h1, h2⟩ := Paired.get hp hx
    have : vs.toList[i]? = some v := by simpa using hv
    rw [this] at h1
    cases h1
    exact h2
  · rintro i h ⟨⟨o, h1, h2, h3⟩, ⟨o', h4, h5, k', h6⟩⟩ b hb
    rcases List.mem_cons.mp hb with rfl | hb
    · exact ⟨o, h1, fun ov e => by rw [h3] at e; cases e⟩
    · rw [List.mem_singleton.mp hb]
      exact ⟨o', h4, fun ov e => by rw [h6] at e; cases e⟩
  · intro b hb
    rw [List.mem_singleton.mp hb]
    exact ⟨hf.1, hf.2.2⟩
  · intro b hb
    rw [List.mem_singleton.mp hb]
    exact hf.2.1
  · intro b hb
    rcases List.mem_cons.mp hb with rfl | hb
    · exact hf.2.1
    · rw [List.mem_singleton.mp hb]
      exact st₁.out_low ha

/-- a text's signs -/
noncomputable def signs (x : Str) : List Value := x.cps.toList.map fun c => S ⟨#[c]⟩
theorem wi_str {iter : Expr} {x : Str} {t : Tok} {Q : List Ent → List Ent → Prop} (h : WE prog w n mg mb K env nm oc (eval iter env) F H fun v H₁ => v = .str x t ∧ Q H₁ []) :
    WI prog w n mg mb K env nm oc (eval iter env) F H (signs x) Q := by
  intro A hA P s E R st hR
  refine h A hA P s E _ st fun v F' H' s₁ st₁ ⟨e1, b, hb, q1, q2⟩ => ?_
  subst e1 q1
  obtain ⟨u, rfl⟩ := hb
  have hf := st₁.fresh (b := s₁.heap.objs.size) (Nat.le_refl _)
  have hlen : (signs x).length = x.cps.size := by simp [signs]
  have go : ∀ (cls : String) (o : Obj), o = { cls := .type cls, data := .fields #[.str x u, .int 0 0] } → (∀ A : Around, A.handled = none → Walks prog w A s₁.heap.objs.size [s₁.heap.objs.size] [s₁.heap.objs.size] x.cps.size (SignAt x) (fun i h => h.IsStrIter s₁.heap.objs.size cls x u i)) →
      (s₁.heap.push o).IsStrIter s₁.heap.objs.size cls x u 0 → R (.ref s₁.heap.objs.size) { s₁ with heap := s₁.heap.push o } := by
    intro cls o ho W h0
    have st' : St mg mb K P env nm oc F' H' { s₁ with heap := s₁.heap.push o } := st₁.kept (s' := { s₁ with heap := s₁.heap.push o }) (fun b o e => Heap.get?_push_of_some _ e) st₁.gens rfl
    refine hR _ _ [] _ s₁.heap.objs.size [s₁.heap.objs.size] [s₁.heap.objs.size] _ _ st' ⟨rfl, by rw [hlen]; exact W A hA.1, h0, ?_, ?_, ?_, ?_⟩ ?_ ⟨fun e he => (nomatch he), List.nodup_nil⟩ q2
    · rintro i v a ha ⟨c, u', hc, rfl⟩
      unfold signs at ha
      rw [List.getElem?_map, Array.getElem?_toList, hc] at ha
      cases ha
      exact ⟨u', rfl⟩
    · rintro i h ⟨o', h1, h2, h3⟩ b hb
      rw [List.mem_singleton.mp hb]
      exact ⟨o', h1, fun ov e => by rw [h3] at e; cases e⟩
    · intro b hb
      rw [List.mem_singleton.mp hb]
      exact ⟨hf.1, hf.2.2⟩
    · intro b hb
      rw [List.mem_singleton.mp hb]
      exact hf.2.1
    · intro b hb
      rw [List.mem_singleton.mp hb]
      exact hf.2.1
  cases ha : x.cps.all (· < 128)
  · exact wpAny_pyIter_wide ha (go "str_iterator" _ rfl (fun A' hA => Walks.strWide hA _ x u) ⟨_, Heap.get?_push_size _ rfl, rfl, rfl⟩)
  · exact wpAny_pyIter_ascii ha (go "str_ascii_iterator" _ rfl (fun A' hA => Walks.strAscii hA _ x u) ⟨_, Heap.get?_push_size _ rfl, rfl, rfl⟩)
end
end Mine
end

section
open PySem PySem.W PyProof.Rows
set_option Elab.async false
set_option linter.unusedVariables false
namespace Mine

theorem bindL_other {kindOf : Str → Option NameKind} : ∀ (l : List (Str × Value)) (m : Str → Option Value) (x : Str), x ∉ l.map (·.1) → bindL kindOf l m x = m x
  | [], _, _, _ => rfl
  | (y, v) :: r, m, x, h => by
    simp only [List.map_cons, List.mem_cons, not_or] at h
    unfold bindL
    rw [bindL_other r _ x h.2]
    split
    · simp [h.1]
    · rfl
theorem bindL_mem {kindOf : Str → Option NameKind} : ∀ (l : List (Str × Value)) (m : Str → Option Value) (x : Str) (v : Value), (l.map (·.1)).Nodup → (x, v) ∈ l → kindOf x = some .local → bindL kindOf l m x = some v
  | (y, u) :: r, m, x, v, hn, h, hk => by
    simp only [List.map_cons, List.nodup_cons] at hn
    unfold bindL
    rcases List.mem_cons.mp h with e | h
    · cases e
      rw [bindL_other r _ _ hn.1, if_pos hk]
      simp
    · exact bindL_mem r _ x v hn.2 h hk
theorem bindC_other {kindOf : Str → Option NameKind} : ∀ (l : List (Str × Value)) (m : Str → Option Value) (x : Str), x ∉ l.map (·.1) → bindC kindOf l m x = m x
  | [], _, _, _ => rfl
  | (y, v) :: r, m, x, h => by
    simp only [List.map_cons, List.mem_cons, not_or] at h
    unfold bindC
    rw [bindC_other r _ x h.2]
    split
    · rfl
    · simp [h.1]
theorem bindC_mem {kindOf : Str → Option NameKind} : ∀ (l : List (Str × Value)) (m : Str → Option Value) (x : Str) (v : Value), (l.map (·.1)).Nodup → (x, v) ∈ l → kindOf x ≠ some .local → bindC kindOf l m x = some v
  | (y, u) :: r, m, x, v, hn, h, hk => by
    simp only [List.map_cons, List.nodup_cons] at hn
    unfold bindC
    rcases List.mem_cons.mp h with e | h
    · cases e
      rw [bindC_other r _ _ hn.1, if_neg hk]
      simp
    · exact bindC_mem r _ x v hn.2 h hk

theorem len1 {α : Type} {l : List α} (h : l.length = 1) : ∃ x, l = [x] := by
  cases l with
  | nil => cases h
  | cons x r => exact ⟨x, congrArg (x :: ·) (List.eq_nil_of_length_eq_zero (Nat.succ.inj h))⟩
theorem len2 {α : Type} {l : List α} (h : l.length = 2) : ∃ x y, l = [x, y] := by
  cases l with
  | nil => cases h
  | cons x r => exact ⟨x, (len1 (Nat.succ.inj h)).imp fun _ e => congrArg (x :: ·) e⟩
theorem len3 {α : Type} {l : List α} (h : l.length = 3) : ∃ x y z, l = [x, y, z] := by
  cases l with
  | nil => cases h
  | cons x r => exact ⟨x, (len2 (Nat.succ.inj h)).imp fun _ z => z.imp fun _ e => congrArg (x :: ·) e⟩
theorem len4 {α : Type} {l : List α} (h : l.length = 4) : ∃ x y z u, l = [x, y, z, u] := by
  cases l with
  | nil => cases h
  | cons x r => exact ⟨x, (len3 (Nat.succ.inj h)).imp fun _ z => z.imp fun _ z => z.imp fun _ e => congrArg (x :: ·) e⟩
/-- a def stands at f -/
noncomputable def FnAtX (h : Heap) (f : Addr) (name : Str) (params : Arguments) (body : List Stmt) (scope : Scope) : Prop :=
  ∃ o pm cd doc, h.get? f = some o ∧ o.data = .func (Calls.docDef name params body scope pm cd doc) ∧ h.CodeRec cd name
theorem FnAtX.keeps {h h' : Heap} {f : Addr} {name : Str} {params : Arguments} {body : List Stmt} {scope : Scope} (x : FnAtX h f name params body scope) (k : ∀ b o, h.get? b = some o → h'.get? b = some o) : FnAtX h' f name params body scope :=
  let ⟨o, pm, cd, doc, a, b, c⟩ := x; ⟨o, pm, cd, doc, k _ _ a, b, c.keeps k⟩

/-- what a call of the def at f gives: a value and new lists; all that stood stands -/
noncomputable def FX (prog : Program) (w : World) (n : Nat) (f : Addr) (as : List Value) (s : Shared) (Q : Value → List Ent → Prop) : Prop :=
  ∀ A, Room n A → ∀ vs, Paired Vm as vs → ∀ R : Result → Shared → Prop, (∀ v s' a H', Vm a v → (∀ b o, s.heap.get? b = some o → s'.heap.get? b = some o) → s'.gens = #[] → s'.os = s.os →
    (∀ e ∈ H', LstAt s'.heap e.1 e.2 ∧ s.heap.objs.size ≤ e.1) → (H'.map (·.1)).Nodup → Q a H' → R (.ok (.ret v)) s') → codeAny (model prog w) A (.call (.ref f) ⟨vs, []⟩) R s

noncomputable def parOk (nm : List (Str × NameKind)) (ps : List Str) (par : List (Option Nat)) : Bool :=
  decide (nm.length = par.length) && ((nm.zip par).all fun (y, c) => match c with | some j => ps[j]? == some y.1 | none => true) &&
  (ps.all fun x => nm.lookup x == some .local || nm.lookup x == some .cell) && nm.all fun y => y.2 != .free
noncomputable def parF (as : List Value) (par : List (Option Nat)) : List (Option Value) := par.map fun c => c.bind fun j => as[j]?

section
variable {prog : Program} {w : World} {n : Nat} {mg mb : Str → Option Value}
theorem fx_body {f : Addr} {name : Str} {params : Arguments} {body : List Stmt} {scope : Scope} {s : Shared} {as : List Value} {nm : List (Str × NameKind)} {ps : List Str} {par : List (Option Nat)} {Q : Value → List Ent → Prop}
    (hf : FnAtX s.heap f name params body scope) (gb : GB mg mb s.heap) (hg : s.gens = #[])
    (hk : scope.kind = .function) (hco : scope.isCoroutine = false) (hgen : scope.isGenerator = false) (hnm : scope.names = nm) (hnd : (nm.map (·.1)).Nodup)
    (hbind : ∀ pm cd doc vs, vs.length = as.length → bindArgs (Calls.docDef name params body scope pm cd doc) ⟨vs, []⟩ = pure (ps.zip vs)) (hps : ps.length = as.length) (hpn : ps.Nodup) (hpar : parOk nm ps par = true)
    (h : ∀ env, WS prog w n mg mb s env nm true (execs body env) (parF as par) [] fun fl F' H' => Q (match fl with | .ret a => a | _ => .none) H') : FX prog w (n + 4) f as s Q := by
  intro A hA vs hvs R hR
  obtain ⟨o, pm, cd, doc, ho, hd, hcd⟩ := hf
  have hlen := Paired.len hvs
  unfold parOk at hpar
  simp only [Bool.and_eq_true, decide_eq_true_eq, List.all_eq_true, bne_iff_ne] at hpar
  obtain ⟨⟨⟨hp1, hp2⟩, hp3⟩, hp4⟩ := hpar
  have hlk : ∀ x, (x, NameKind.cell) ∈ nm → ((cellsFrom (s.heap.objs.size + 1) scope.names []).lookup x).isSome = true := fun x hx => cellsFrom_has _ _ _ x (.inl (hnm ▸ hx))
  refine codeAny_call_function (Room.lim hA) ho hd hco hgen rfl hcd ?_
  rw [hbind pm cd doc vs hlen.symm]
  refine wpAny_pure (wpAny_newFunctionEnv_cells hk (fun y hy => ?_) fun env he s' x => ⟨?_, ?_⟩)
  · have hy1 : y.1 ∈ ps := by
      obtain ⟨y1, y2⟩ := y
      exact (List.of_mem_zip hy).1
    have := hp3 y.1 hy1
    simp only [Bool.or_eq_true, beq_iff_eq] at this
    show scope.names.lookup y.1 = some .local ∨ (scope.names.lookup y.1 = some .cell ∧ ((cellsFrom (s.heap.objs.size + 1) scope.names []).lookup y.1).isSome = true)
    rcases this with e | e
    · exact .inl (hnm ▸ e)
    · refine .inr ⟨hnm ▸ e, ?_⟩
      refine hlk _ ?_
      have := List.lookup_eq_some_iff.mp e
      obtain ⟨l₁, l₂, h1, _⟩ := this
      rw [h1]; simp
  · exact gb.lim.keeps x.toInCall.keep
  · have e1 : env.scope = scope := by rw [he]; rfl
    have e2 : env.cells = cellsFrom (s.heap.objs.size + 1) scope.names [] := by rw [he]; rfl
    have e3 : env.locals = s.heap.objs.size := by rw [he]; rfl
    have e4 : env.globals = mainGlobals := by rw [he]; rfl
    have e5 : env.builtins = builtinsNs := by rw [he]; rfl
    clear he
    have hko : ∀ z, env.kindOf z = nm.lookup z := fun z => by unfold Env.kindOf; rw [e1, hnm]
    have hzip : ((ps.zip vs).map (·.1)).Nodup := by
      rw [List.map_fst_zip (by omega)]
      exact hpn
    have hpv : ∀ (i : Nat) (y : Str) (k : NameKind) (a : Value), nm[i]? = some (y, k) → (parF as par)[i]? = some (some a) → ∃ v, (y, v) ∈ ps.zip vs ∧ Vm a v := by
      intro i y k a hy ha
      unfold parF at ha
      rw [List.getElem?_map] at ha
      cases hc : par[i]? with
      | none => rw [hc] at ha; cases ha
      | some c =>
        rw [hc] at ha
        simp only [Option.map_some, Option.some.injEq] at ha
        cases c with
        | none => cases ha
        | some j =>
          simp only [Option.bind_some] at ha
          have hm : ((y, k), some j) ∈ nm.zip par := List.mem_iff_getElem?.mpr ⟨i, List.getElem?_zip_eq_some.mpr ⟨hy, hc⟩⟩
          have := hp2 _ hm
          simp only [beq_iff_eq] at this
          obtain ⟨v, hv, hmv⟩ := Paired.get hvs ha
          exact ⟨v, List.mem_iff_getElem?.mpr ⟨j, List.getElem?_zip_eq_some.mpr ⟨this, hv⟩⟩, hmv⟩
    have eok : EnvOk mg mb s env nm true := by
      refine ⟨by rw [e1]; exact hk, by rw [e1]; exact hnm, hnd, e4, e5, gb, fun _ y c _ hy => ?_, fun _ y z c hy hz => name_of_addr x.apart (PySem.mem_of_lookup hy) (PySem.mem_of_lookup hz)⟩
      have := x.above y c (PySem.mem_of_lookup hy)
      rw [e3] at this
      exact Nat.le_of_lt this
    obtain ⟨h', tk, hs'⟩ := x.toInCall.same
    have hgens : s'.gens = #[] := by rw [hs']; exact hg
    have hos : s'.os = s.os := by rw [hs']
    have st : St mg mb s [] env nm true (parF as par) [] s' := by
      refine ⟨eok, ⟨_, ⟨x.toInCall.ns, x.toInCall.keep, x.toInCall.fresh⟩, fun i y a hy ha => ?_⟩, fun i y k hy hkk => ?_, fun e he => (nomatch he), List.nodup_nil, fun p hp => (nomatch hp), hgens, hos⟩
      · obtain ⟨v, hv, hm⟩ := hpv i y _ a hy ha
        exact ⟨v, bindL_mem _ _ _ _ hzip hv ((hko y).trans (lookup_of_get hnd hy)), hm⟩
      · have hmem := List.mem_of_getElem? hy
        have hk' : k = .cell := by
          rcases hkk with rfl | rfl
          · rfl
          · exact absurd rfl (hp4 _ hmem)
        subst hk'
        obtain ⟨c, hc⟩ := Option.isSome_iff_exists.mp (hlk y hmem)
        have hc' : env.cells.lookup y = some c := by rw [e2]; exact hc
        refine ⟨c, _, hc', x.cell y c hc', fun a ha => ?_⟩
        obtain ⟨v, hv, hm⟩ := hpv i y _ a hy ha
        exact ⟨v, bindC_mem _ _ _ _ hzip hv (by rw [hko y, lookup_of_get hnd hy]; decide), hm⟩
    refine codeAny_func (h env (A.deeper env) (Room.deeper (hA.le (by omega))) [] s' _ _ st fun fl F' H' s₁ st₁ z00 => z00.elim fun a z00 => z00.elim fun ha q => ?_)
    have fin : ∀ v, Vm (match a with | .ret a => a | _ => .none) v → R (.ok (.ret v)) s₁ := fun v hv => hR v s₁ _ H' hv st₁.keep st₁.gens st₁.os st₁.led st₁.nod q
    cases a with
    | next => cases ha; exact fin _ rfl
    | brk => cases ha; exact fin _ rfl
    | cont => cases ha; exact fin _ rfl
    | ret u => obtain ⟨u', rfl, hu⟩ := ha; exact fin _ hu
end

section
variable {prog : Program} {w : World} {n : Nat} {mg mb : Str → Option Value} {K : Shared} {env : Env} {nm : List (Str × NameKind)} {oc : Bool} {F : List (Option Value)} {H : List Ent}
theorem FX.mono {f : Addr} {as : List Value} {s : Shared} {Q Q' : Value → List Ent → Prop} {m : Nat} (h : FX prog w m f as s Q) (q : ∀ a H', Q a H' → Q' a H') (hm : m ≤ n) : FX prog w n f as s Q' :=
  fun A hA vs hv R hR => h A (hA.le hm) vs hv R fun v s' a H' h1 h2 h3 h4 h5 h6 h7 => hR v s' a H' h1 h2 h3 h4 h5 h6 (q a H' h7)

/-- a call of a def by its name -/
theorem we_fn {f : Addr} {pos : Pos} {x : Expr} {rest : List Expr} {Q : Value → List Ent → Prop} {m : Nat} (hm : m ≤ n)
    (he : starEach (x :: rest) env = (false, eval x env) :: starEach rest env) (hp : (backTo pos (starEach rest env)).any (·.1) = false)
    (hfn : ∃ o fd, K.heap.get? f = some o ∧ o.data = .func fd)
    (h : WL prog w n mg mb K env nm oc (spliced (backTo pos (starEach (x :: rest) env))) F H fun as H₁ => ∀ s, (∃ P, St mg mb K P env nm oc F H₁ s) → FX prog w m f as s fun a H' => Q a (H₁ ++ H')) :
    WE prog w n mg mb K env nm oc (callWith pos (.ref f) [] (backTo pos (starEach (x :: rest) env)) []) F H Q := by
  intro A hA P s E R st hR
  obtain ⟨o, fd, ho, hd⟩ := hfn
  have h' := h A hA P s E (fun vs s₁ => s₁.heap.get? f = some o ∧ wpAny (model prog w) A (call (.ref f) ([] ++ vs)) R E s₁) st fun vs F' H' s₁ st₁ z00 => z00.elim fun e z00 => z00.elim fun as z00 => z00.elim fun has q => by
    subst e
    refine ⟨st₁.keep _ _ ho, wpAny_call (q s₁ ⟨P, st₁⟩ A (hA.le hm) vs has _ fun v s' a H'' h1 h2 h3 h4 h5 h6 h7 => ?_)⟩
    refine hR _ _ _ _ ((st₁.kept h2 h3 h4).join h5 h6 st₁.size (fun e he => (st₁.led e he).1.lt) fun p hp => Heap.lt_size (st₁.pro p hp).1) ⟨rfl, a, h1, h7⟩
  rw [he] at h' ⊢
  refine callWith_of (P := fun h => h.get? f = some o) (by show ((false || (backTo pos (starEach rest env)).any (·.1)) || false) = false; rw [hp]; rfl) (fun h e => ⟨.frame, .inl rfl, fun A Q E s k q => ?_⟩) (Calls.evalArgs_plain ?_)
  · unfold keeperOf
    refine wpAny_bind (wpAny_load (k _ _ e) ?_)
    rw [hd]
    exact wpAny_pure q
  · exact wpAny_mono h' (fun vs s₁ x => x) fun _ _ x => x
end
end Mine
end

section
open PySem PySem.W PyProof.Rows
set_option Elab.async false
set_option linter.unusedVariables false
set_option maxRecDepth 100000
namespace Mine

section
variable {prog : Program} {w : World} {A : Around} {E : Value → Shared → Prop} {s : Shared}
/-- an item of a list is set: the object stays a plain list -/
theorem setItem_plain {l : Addr} {vs : Array Value} {k : Int} {t : Tok} {v : Value} {Q : Unit → Shared → Prop} (hl : s.heap.PlainList l vs) (h0 : 0 ≤ k) (hfit : k < 2 ^ 63) (hk : k < vs.size)
    (hQ : ∀ h', h'.PlainList l (vs.setIfInBounds k.toNat v) → Heap.SameBut l s.heap h' → Q () { s with heap := h' }) : wpAny (model prog w) A (setItem (.ref l) (.int k t) v) Q E s := by
  obtain ⟨ep, ho⟩ := id hl
  have hT := hl.isList.typeIs
  have fits := fitsIndex_of h0 hfit
  clear hfit
  have hj : k.toNat < vs.size := by omega
  have new : (s.heap.update l (Obj.mapSeq (·.setIfInBounds k.toNat v))).PlainList l (vs.setIfInBounds k.toNat v) := ⟨_, Heap.get?_update_self _ ho rfl⟩
  have last := hQ _ new (Heap.SameBut.update ..)
  clear new hQ
  unfold setItem
  refine wpAny_holding ?_
  refine wpAny_bind (wpAny_sequenceKey hT (by decide) ?_)
  refine wpAny_bind (wpAny_callSpecial?_slot (name := Str.ofString "__setitem__") hT slot_list_setitem (wpAny_call_entry slot_list_setitem hT entry_list_setitem ?_ (args_list_setitem _ _ _)))
  show wpAny _ _ (Builtin.List.listSubscript? (.int k t) >>= _) _ _ s
  refine wpAny_bind (wpAny_listSubscript_int fits ?_)
  generalize hjj : k.toNat = j at hj last
  obtain rfl : k = (j : Int) := by omega
  show wpAny _ _ ((seqItemAt l j >>= fun r => pure (r.map (j, ·))) >>= _) _ _ s
  refine wpAny_bind (wpAny_bind (wpAny_seqItemAt ho rfl (wpAny_pure ?_)))
  rw [Array.getElem?_eq_getElem hj]
  show wpAny _ _ (setSeqItemAt l j v >>= _) _ _ s
  refine wpAny_bind (wpAny_setSeqItemAt ho rfl ?_)
  first
    | exact wpAny_bind (wpAny_pure (wpAny_pure ⟨.none, rfl, wpAny_pure last⟩))
    | exact wpAny_pure ⟨.none, rfl, wpAny_pure last⟩
end

section
variable {prog : Program} {w : World} {n : Nat} {mg mb : Str → Option Value} {K : Shared} {env : Env} {nm : List (Str × NameKind)} {oc : Bool} {F : List (Option Value)} {H : List Ent}

/-- a new list joins the frame's own -/
theorem St.addList {P : List (Addr × Obj)} {s s' : Shared} (st : St mg mb K P env nm oc F H s) (st' : St mg mb K P env nm oc F H s') {a : Addr} {vs : Array Value} {k : Nat} {xs : List Value} (ha : s.heap.objs.size ≤ a)
    (hg : s'.heap.get? a = some { cls := .type "list", data := .seq vs k }) (hp : Paired Vm xs vs.toList) : St mg mb K P env nm oc F (H ++ [(a, xs)]) s' :=
  st'.join (H' := [(a, xs)]) (n0 := s.heap.objs.size) (fun e he => by rw [List.mem_singleton.mp he]; exact ⟨⟨vs, ⟨k, hg⟩, hp⟩, ha⟩) (by simp) st.size (fun e he => (st.led e he).1.lt) fun p hp => Heap.lt_size (st.pro p hp).1

/-! slices -/
noncomputable def PartOf : Value → Option Int → Prop
  | .none, none => True
  | .int i _, some j => i = j
  | _, _ => False
theorem PartOf.is {a v : Value} {o : Option Int} (h : PartOf a o) (hv : Vm a v) : IsPart v o := by
  unfold PartOf at h
  split at h
  · cases hv; exact .none
  · subst h; obtain ⟨t, rfl⟩ := hv; exact .int ..
  · cases h
noncomputable def WP (prog : Program) (w : World) (n : Nat) (mg mb : Str → Option Value) (K : Shared) (env : Env) (nm : List (Str × NameKind)) (oc : Bool) (o : Option Expr) (F : List (Option Value)) (H : List Ent) (Q : Value → List Ent → Prop) : Prop :=
  WE prog w n mg mb K env nm oc (evalPart o env) F H Q
theorem wp_none {Q : Value → List Ent → Prop} (h : Q .none H) : WP prog w n mg mb K env nm oc none F H Q :=
  fun A hA P s E R st hR => wpAny_pure (hR _ _ _ _ st ⟨rfl, _, Vm.refl _, h⟩)
theorem wp_some {e : Expr} {Q : Value → List Ent → Prop} (h : WE prog w n mg mb K env nm oc (eval e env) F H Q) : WP prog w n mg mb K env nm oc (some e) F H Q := h

/-- a slice of a text -/
theorem we_SliceStr {value : Expr} {lower upper : Option Expr} {p pos : Pos} {x : Str} {t : Tok} {lo hi : Option Int} {Q : Value → List Ent → Prop} (hsz : x.length ≤ sizeLine)
    (ht : ∀ t r, letTemporaryGo value (.str x t) r = pure ())
    (hs : ∀ t a, subscripted (.Slice lower upper none p) false (.str x t) (.ref a) = operate [.ref a, .str x t] (getItem (.str x t) (.ref a)))
    (h : WE prog w n mg mb K env nm oc (eval value env) F H fun a H₁ => a = .str x t ∧ WP prog w n mg mb K env nm oc lower F H₁ fun l H₂ => PartOf l lo ∧ WP prog w n mg mb K env nm oc upper F H₂ fun u H₃ => PartOf u hi ∧ Q (S (Txt.slice x lo hi)) H₃) :
    WE prog w n mg mb K env nm oc (eval (.Subscript value (.Slice lower upper none p) pos) env) F H Q := by
  intro A hA P s E R st hR
  refine Subscript_ (h A hA P s E _ st fun v F' H' s₁ st₁ ⟨e, a, ha, q1, q⟩ => ?_)
  subst e q1
  obtain ⟨t', rfl⟩ := ha
  refine wpAny_Slice (q A hA P s₁ E _ st₁ fun lv F₂ H₂ s₂ st₂ ⟨e, a, ha, q1, q⟩ => ?_)
  subst e
  refine q A hA P s₂ E _ st₂ fun uv F₃ H₃ s₃ st₃ ⟨e, b, hb, q2, q'⟩ => ?_
  subst e
  have pl := q1.is ha
  have pu := q2.is hb
  obtain ⟨m, news, f, N, back, _⟩ := st₃.via
  have fin : ∀ h' t'' k, Fr K.heap env.locals h' m → News K.heap env.locals h' news → R (.str (Txt.slice x lo hi) t'') { s₃ with heap := h', toks := k } := fun h' t'' k f' N' => hR _ _ _ _ (back { s₃ with heap := h', toks := k } f' N' st₃.gens rfl) ⟨rfl, S (Txt.slice x lo hi), Vm.str, q'⟩
  refine wpAny_pure ?_
  cases pl with
  | none =>
    cases pu with
    | none => exact slice_strN_nn f N fin (hs _ _) (ht _) hsz
    | int j u => exact slice_strN_ns f N fin (hs _ _) (ht _) hsz
  | int j u =>
    cases pu with
    | none => exact slice_strN_sn f N fin (hs _ _) (ht _) hsz
    | int j u => exact slice_strN_ss f N fin (hs _ _) (ht _) hsz

/-- a slice of a list -/
theorem we_SliceList {value : Expr} {lower upper : Option Expr} {p pos : Pos} {l : Addr} {xs : List Value} {lo hi : Option Int} {Q : Value → List Ent → Prop} (hsz : xs.length ≤ sizeLine)
    (hs : ∀ l a, subscripted (.Slice lower upper none p) false (.ref l) (.ref a) = operate [.ref a, .ref l] (getItem (.ref l) (.ref a)))
    (h : WE prog w n mg mb K env nm oc (eval value env) F H fun a H₁ => a = .ref l ∧ WP prog w n mg mb K env nm oc lower F H₁ fun lv H₂ => PartOf lv lo ∧ WP prog w n mg mb K env nm oc upper F H₂ fun u H₃ => PartOf u hi ∧ Rd K H₃ l xs ∧
      ∀ a, Q (.ref a) (H₃ ++ [(a, (slicePick xs.toArray lo hi none).toList)])) :
    WE prog w n mg mb K env nm oc (eval (.Subscript value (.Slice lower upper none p) pos) env) F H Q := by
  intro A hA P s E R st hR
  refine Subscript_ (h A hA P s E _ st fun v F' H' s₁ st₁ ⟨e, a, ha, q1, q⟩ => ?_)
  subst e q1
  cases ha
  refine wpAny_Slice (q A hA P s₁ E _ st₁ fun lv F₂ H₂ s₂ st₂ ⟨e, a, ha, q1, q⟩ => ?_)
  subst e
  refine q A hA P s₂ E _ st₂ fun uv F₃ H₃ s₃ st₃ ⟨e, b, hb, q2, hr, q'⟩ => ?_
  subst e
  have pl := q1.is ha
  have pu := q2.is hb
  refine wpAny_pure ?_
  obtain ⟨vs, hl, hp⟩ := hr.at' st₃
  have hlen : vs.size = xs.length := by have := Paired.len hp; simpa using this.symm
  generalize ho1 : ({ cls := .type "slice", data := .fields #[lv, uv, .none] } : Obj) = o1
  have k1 : ∀ b o, s₃.heap.get? b = some o → (s₃.heap.push o1).get? b = some o := fun b o e => Heap.get?_push_of_some _ e
  have hl1 : (s₃.heap.push o1).IsList l vs := let ⟨o, e, r⟩ := hl; ⟨o, k1 _ _ e, r⟩
  have hs1 : (s₃.heap.push o1).IsSliceOf s₃.heap.objs.size lv uv .none := by subst ho1; exact Heap.IsSliceOf.new ..
  refine tail_any (s := { s₃ with heap := s₃.heap.push o1 }) hl1.typeIs slot_list_getitem.lookup (wpAny_getItem_list_slice hl1 hs1 pl pu .none (by decide) ?_ (by omega)) (hs _ _)
  have st4 : St mg mb K P env nm oc F₃ H₃ { s₃ with heap := (s₃.heap.push o1).push { cls := .type "list", data := .seq (slicePick vs lo hi none) } } :=
    st₃.kept (s' := { s₃ with heap := (s₃.heap.push o1).push { cls := .type "list", data := .seq (slicePick vs lo hi none) } }) (fun b o e => Heap.get?_push_of_some _ (k1 b o e)) st₃.gens rfl
  refine hR _ _ _ _ (st₃.addList st4 (a := (s₃.heap.push o1).objs.size) (by rw [Heap.size_push]; exact Nat.le_succ _) (Heap.get?_push_size _ rfl) ?_) ⟨rfl, _, Vm.refl _, q' _⟩
  unfold slicePick
  rw [hlen]
  simp only [List.size_toArray, List.getElem?_toArray]
  generalize sliceRange _ _ _ = l
  induction l with
  | nil => exact .nil
  | cons i r ih =>
    rw [List.filterMap_cons, List.filterMap_cons]
    cases hx : xs[i]? with
    | none =>
      have : vs[i]? = none := by
        have := List.getElem?_eq_none_iff.mp hx
        exact Array.getElem?_eq_none (by omega)
      simp only [this]
      exact ih
    | some a =>
      obtain ⟨v, hv, hm⟩ := Paired.get hp hx
      have hv' : vs[i]? = some v := by simpa using hv
      simp only [hv']
      exact .cons hm ih

/-! lists put together -/
theorem wb_addl {a b : Addr} {xs ys : List Value} {Q : Value → List Ent → Prop} (hx : Rd K H a xs) (hy : Rd K H b ys) (hsz : xs.length + ys.length ≤ sizeLine) (h : ∀ c, Q (.ref c) (H ++ [(c, xs ++ ys)])) :
    WB prog w n mg mb K env nm oc (binaryOp .Add) (.ref a) (.ref b) F H Q := by
  rintro _ _ rfl rfl A hA P s E R st hR
  obtain ⟨vs, hl, hp⟩ := hx.at' st
  obtain ⟨us, hl', hp'⟩ := hy.at' st
  have e1 : vs.size = xs.length := by have := Paired.len hp; simpa using this.symm
  have e2 : us.size = ys.length := by have := Paired.len hp'; simpa using this.symm
  obtain ⟨m, news, f, N, back, _⟩ := st.via
  refine add_arrays f N hl hl' (fun h' f' N' => ?_) (by omega)
  have st' := back { s with heap := h' } f' (fun p hp => N' p (List.mem_cons_of_mem _ hp)) st.gens rfl
  exact hR _ _ _ _ (st.addList st' (Nat.le_refl _) (N' _ List.mem_cons_self).1 (by simpa using Paired.app hp hp')) ⟨rfl, _, Vm.refl _, h _⟩

/-- an item is stored -/
theorem ws_Store {o i value : Expr} {pos' pos : Pos} {Q : Flow → List (Option Value) → List Ent → Prop} (hs : swapsWith value (some (.Subscript o i pos')) pos.line env = pure false)
    (h : WE prog w n mg mb K env nm oc (eval value env) F H fun v H₁ => WE prog w n mg mb K env nm oc (eval o env) F H₁ fun a H₂ => WE prog w n mg mb K env nm oc (eval i env) F H₂ fun k H₃ =>
      ∃ j l xs z, a = .ref l ∧ k = I z ∧ H₃[j]? = some (l, xs) ∧ 0 ≤ z ∧ z < 2 ^ 63 ∧ z < xs.length ∧ Q .next F (H₃.set j (l, xs.set z.toNat v))) :
    WS prog w n mg mb K env nm oc (exec (.Assign [.Subscript o i pos'] value pos) env) F H Q := by
  intro A hA P s E R st hR
  refine wpAny_Assign_Subscript (h A hA P s E _ st fun v F' H' s₁ st₁ ⟨e, a, ha, q⟩ => ?_) hs
  subst e
  refine q A hA P s₁ E _ st₁ fun ov F' H' s₂ st₂ ⟨e, b, hb, q⟩ => ?_
  subst e
  refine q A hA P s₂ E _ st₂ fun kv F' H' s₃ st₃ ⟨e, c, hc, j, l, xs, z, q1, q2, q3, q4, q5, q6, q7⟩ => ?_
  subst e q1 q2
  cases hb
  obtain ⟨t, rfl⟩ := hc
  obtain ⟨⟨vs, hl, hp⟩, hK⟩ := st₃.led _ (List.mem_of_getElem? q3)
  have e1 : vs.size = xs.length := by have := Paired.len hp; simpa using this.symm
  refine setItem_plain hl q4 q5 (by omega) fun h' hl' hs' => ?_
  refine hR _ _ _ _ (st₃.setList q3 (ys := xs.set z.toNat a) ⟨_, hl', ?_⟩ hs') ⟨.next, rfl, q7⟩
  rw [Array.toList_setIfInBounds]
  exact Paired.set hp _ ha

/-- xs.append(y) -/
theorem ws_Append {o elt : Expr} {apos pos epos : Pos} {Q : Flow → List (Option Value) → List Ent → Prop}
    (hi : ∀ P s, St mg mb K P env nm oc F H s → interactive env = false) (hsw : swapsWith (.Call (.Attribute o "append" apos) [elt] [] pos) none epos.line env = pure false)
    (hbase : attributeBase o "append" env (eval o env) = eval o env)
    (hfew : ((backTo pos (starEach [elt] env)).all (fun x => !x.1) && (backToKw pos (keywordEach [] env)).all (fun x => x.1.isSome)
      && decide (([elt] : List Expr).length + ([] : List Keyword).length + (if ([] : List Keyword).isEmpty then 0 else 1) < 30)) = true)
    (hline : (apos.endLine == pos.line) = true) (htrees : backTo pos (starEach [elt] env) = [(false, eval elt env)])
    (h : WE prog w n mg mb K env nm oc (eval o env) F H fun a H₁ => ∃ l, a = .ref l ∧ (∃ xs, (l, xs) ∈ H₁) ∧ WE prog w n mg mb K env nm oc (eval elt env) F H₁ fun y H₂ =>
      ∃ j xs, H₂[j]? = some (l, xs) ∧ xs.length ≤ sizeLine ∧ Q .next F (H₂.set j (l, xs ++ [y]))) :
    WS prog w n mg mb K env nm oc (exec (.Expr (.Call (.Attribute o "append" apos) [elt] [] pos) epos) env) F H Q := by
  intro A hA P s E R st hR
  refine wpAny_Expr (wpAny_Call_append hbase hfew hline htrees (h A hA P s E _ st fun v F' H' s₁ st₁ ⟨e, a, ha, l, q1, ⟨xs, q2⟩, q⟩ => ?_)) (hi P s st) hsw
  subst e q1
  cases ha
  obtain ⟨⟨vs, ⟨k, hl⟩, hp⟩, hK⟩ := st₁.led _ q2
  refine ⟨l, vs, rfl, ⟨_, k, hl, rfl, rfl, rfl⟩, ?_⟩
  refine q A hA P s₁ E _ st₁ fun y F' H' s₂ st₂ ⟨e, b, hb, j, xs, q3, q4, q5⟩ => ?_
  subst e
  obtain ⟨⟨vs, hl, hp⟩, hK⟩ := st₂.led _ (List.mem_of_getElem? q3)
  have e1 : vs.size = xs.length := by have := Paired.len hp; simpa using this.symm
  refine wpAny_list_append_plain hl (fun h' hl' hs' => ?_) (hsz := by omega)
  refine hR _ _ _ _ (st₂.setList q3 (ys := xs ++ [b]) ⟨_, hl', ?_⟩ hs') ⟨.next, rfl, q5⟩
  rw [Array.toList_push]
  exact Paired.snoc hp hb
end
end Mine
end

section
open PySem PySem.W PyProof.Rows
set_option Elab.async false
set_option linter.unusedVariables false
set_option maxRecDepth 100000
namespace Mine

theorem strs_are {ys : List Str} : ∀ {vs : List Value}, Paired Vm (ys.map S) vs → StrsAre vs ys := by
  induction ys with
  | nil => intro vs h; cases h; exact .nil
  | cons y r ih =>
    intro vs h
    cases h with
    | cons h1 h2 =>
      obtain ⟨t, rfl⟩ := h1
      exact .cons y t (ih h2)

section
variable {prog : Program} {w : World} {n : Nat} {mg mb : Str → Option Value} {K : Shared} {env : Env} {nm : List (Str × NameKind)} {oc : Bool} {F : List (Option Value)} {H : List Ent}

/-- sep.join(texts): what is called behind the method's look -/
theorem we_join {sep : Str} {v : Value} {vs : List Value} {l : Addr} {ys : List Str} {Q : Value → List Ent → Prop} (hv : Vm (S sep) v) (hvs : Paired Vm [.ref l] vs) (hr : Rd K H l (ys.map S))
    (hok : (ys.map (·.length)).sum + ys.length * sep.length ≤ 16777216) (h : Q (S (Txt.join sep ys)) H) : WE prog w n mg mb K env nm oc (call (.builtin "str.join") ([v] ++ vs)) F H Q := by
  intro A hA P s E R st hR
  obtain ⟨t, rfl⟩ := hv
  cases hvs with
  | cons h1 h2 =>
    cases h1
    cases h2
    obtain ⟨us, hl, hp⟩ := hr.at' st
    exact join_list hl (strs_are hp) hok fun t' k => hR _ _ _ _ (st.tok _) ⟨rfl, S _, Vm.str, h⟩

theorem we_lower {x : Str} {v : Value} {Q : Value → List Ent → Prop} (hv : Vm (S x) v) (hl : (Txt.lower x).length ≤ sizeLine) (h : Q (S (Txt.lower x)) H) : WE prog w n mg mb K env nm oc (call (.builtin "str.lower") ([v] ++ [])) F H Q := by
  intro A hA P s E R st hR
  obtain ⟨t, rfl⟩ := hv
  exact SC.lower (by unfold Builtin.Str.tooLong; simpa using hl) (hR _ _ _ _ (st.tok _) ⟨rfl, S _, Vm.str, h⟩)

/-- list(xs) -/
theorem wc_list {l : Addr} {xs : List Value} {Q : Value → List Ent → Prop} (hr : Rd K H l xs) (hsz : xs.length ≤ sizeLine) (h : ∀ c, Q (.ref c) (H ++ [(c, xs)])) : WC prog w n mg mb K env nm oc (.type "list") [.ref l] F H Q := by
  intro vs hvs A hA P s E R st hR
  cases hvs with
  | cons h1 h2 =>
    cases h1
    cases h2
    obtain ⟨us, ⟨o, ho, hc, k, hd⟩, hp⟩ := hr.at' st
    have e1 : us.size = xs.length := by have := Paired.len hp; simpa using this.symm
    refine call_list_seq l (.inl rfl) ho hc hd (fun h' c' hk hg => ?_) (by omega)
    have st' := st.kept (s' := { s with heap := h' }) hk st.gens rfl
    exact hR _ _ _ _ (st.addList st' (Nat.le_refl _) hg hp) ⟨rfl, _, Vm.refl _, h _⟩

/-- the list of a range that nothing else knows -/
theorem list_of_range {A : Around} (hA : Room n A) {P : List (Addr × Obj)} {s : Shared} (st : St mg mb K P env nm oc F H s) {a b c : Int} {t u v : Tok} {E R : Value → Shared → Prop} {r : Addr} {k : Nat}
    (hr : IsRange s.heap r a b c t u v) (hsmall : Builtin.Range.small a b c = true) (hn : Builtin.Range.rangeSize a b c = (k : Int)) (hlen : k ≤ 2 ^ 24)
    (hR : ∀ s' D, St mg mb K P env nm oc F (H ++ [(D, (rangeInts a c k).map I)]) s' → R (.ref D) s') : wpAny (model prog w) A (call (.type "list") [.ref r]) R E s := by
  obtain ⟨m, news, f, N, back, _⟩ := st.via
  refine list_rangeD hA.1 f N hr hsmall hn hlen fun h' tk ys f' N' hk _ hl hpl hc => ?_
  have st' := back { s with heap := h', toks := tk } f' N' st.gens rfl
  obtain ⟨⟨k', hg⟩, _⟩ := hpl
  refine hR _ _ (st.addList st' (Nat.le_refl _) hg ?_)
  clear hg hl
  generalize rangeInts a c k = l at hc ⊢
  simp only
  revert hc
  induction l generalizing ys with
  | nil => intro hc; cases hc; exact .nil
  | cons i r ih =>
    intro hc
    cases hc with
    | cons h1 h2 => cases h1 with | int i t => exact .cons ⟨t, rfl⟩ (ih _ h2)

theorem we_listRange2 {pl p₁ p₂ pos : Pos} {il ir : Str} {e₁ e₂ : Expr} {a b : Int} {k : Nat} {Q : Value → List Ent → Prop}
    (hl : WE prog w n mg mb K env nm oc (eval (.Name il pl) env) F H fun f H₁ => f = .type "list" ∧ H₁ = H)
    (hn : WE prog w n mg mb K env nm oc (eval (.Name ir p₁) env) F H fun f H₁ => f = .type "range" ∧ H₁ = H)
    (he : starEach [Expr.Call (.Name ir p₁) [e₁, e₂] [] p₂] env = (false, eval (Expr.Call (.Name ir p₁) [e₁, e₂] [] p₂) env) :: starEach [] env)
    (he1 : starEach [e₁, e₂] env = (false, eval e₁ env) :: starEach [e₂] env) (he2 : starEach [e₂] env = (false, eval e₂ env) :: starEach [] env)
    (hp : (backTo p₂ (starEach [e₂] env)).any (·.1) = false) (hlt : -(2 ^ 62) ≤ a ∧ a < 2 ^ 62 ∧ -(2 ^ 62) ≤ b ∧ b < 2 ^ 62) (hk : (b - a).toNat = k) (hk2 : k ≤ 2 ^ 24)
    (h : WE prog w n mg mb K env nm oc (eval e₁ env) F H fun x H₁ => x = I a ∧ WE prog w n mg mb K env nm oc (eval e₂ env) F H₁ fun y H₂ => y = I b ∧ ∀ D, Q (.ref D) (H₂ ++ [(D, (rangeInts a 1 k).map I)])) :
    WE prog w n mg mb K env nm oc (eval (.Call (.Name il pl) [.Call (.Name ir p₁) [e₁, e₂] [] p₂] [] pos) env) F H Q := by
  intro A hA P s E R st hR
  refine wpAny_Call_NameR (hl A hA P s E _ st fun v F' H' s₁ st₁ ⟨e1, x, hx, q1, q2⟩ => ?_)
  subst e1 q1 q2
  cases hx
  refine PyProof.Rows.callWith_type1 (wpAny_items_cons ?_ he) he
  refine wpAny_Call_NameR (hn A hA P s₁ E _ st₁ fun v F' H' s₂ st₂ ⟨e1, x, hx, q1, q2⟩ => ?_)
  subst e1 q1 q2
  cases hx
  refine PyProof.Rows.callWith_type1 (wpAny_items_cons (h A hA P s₂ E _ st₂ fun v F' H' s₃ st₃ ⟨e1, x, hx, q1, q2⟩ => ?_) he1) he1 (hplain := hp)
  subst e1 q1
  obtain ⟨t, rfl⟩ := hx
  refine wpAny_items_cons (q2 A hA P s₃ E _ st₃ fun v F' H' s₄ st₄ ⟨e1, x, hx, q3, q4⟩ => wpAny_items_nil ?_) he2
  subst e1 q3
  obtain ⟨u, rfl⟩ := hx
  refine call_range_2 ?_
  refine wpAny_items_nil ?_
  generalize ho1 : ({ cls := .type "range", data := .fields #[.int a t, .int b u, .int 1 s₄.toks] } : Obj) = o1
  have st₅ : St mg mb K P env nm oc F' H' { s₄ with heap := s₄.heap.push o1, toks := s₄.toks + 1 } := st₄.kept (s' := { s₄ with heap := s₄.heap.push o1, toks := s₄.toks + 1 }) (fun b o e => Heap.get?_push_of_some _ e) st₄.gens rfl
  refine list_of_range hA st₅ (a := a) (b := b) (c := 1) (t := t) (u := u) (v := s₄.toks) (k := k) (by subst ho1; exact Heap.get?_push_size _ rfl) (small_one hlt.1 hlt.2.1 hlt.2.2.1 hlt.2.2.2) (by rw [rangeSize_nat, hk]) hk2 fun s' D st' => ?_
  exact hR _ _ _ _ st' ⟨rfl, _, Vm.refl _, q4 D⟩

theorem we_listRange3 {pl p₁ p₂ pos : Pos} {il ir : Str} {e₁ e₂ e₃ : Expr} {a b c : Int} {k : Nat} {Q : Value → List Ent → Prop}
    (hl : WE prog w n mg mb K env nm oc (eval (.Name il pl) env) F H fun f H₁ => f = .type "list" ∧ H₁ = H)
    (hn : WE prog w n mg mb K env nm oc (eval (.Name ir p₁) env) F H fun f H₁ => f = .type "range" ∧ H₁ = H)
    (he : starEach [Expr.Call (.Name ir p₁) [e₁, e₂, e₃] [] p₂] env = (false, eval (Expr.Call (.Name ir p₁) [e₁, e₂, e₃] [] p₂) env) :: starEach [] env)
    (he1 : starEach [e₁, e₂, e₃] env = (false, eval e₁ env) :: starEach [e₂, e₃] env) (he2 : starEach [e₂, e₃] env = (false, eval e₂ env) :: starEach [e₃] env) (he3 : starEach [e₃] env = (false, eval e₃ env) :: starEach [] env)
    (hp : (backTo p₂ (starEach [e₂, e₃] env)).any (·.1) = false) (hc : c ≠ 0) (hdiv : Builtin.divisionGoesByPylong (b - a) c = false) (hsmall : Builtin.Range.small a b c = true) (hk : Builtin.Range.rangeSize a b c = (k : Int)) (hk2 : k ≤ 2 ^ 24)
    (h : WE prog w n mg mb K env nm oc (eval e₁ env) F H fun x H₁ => x = I a ∧ WE prog w n mg mb K env nm oc (eval e₂ env) F H₁ fun y H₂ => y = I b ∧ WE prog w n mg mb K env nm oc (eval e₃ env) F H₂ fun z H₃ => z = I c ∧ ∀ D, Q (.ref D) (H₃ ++ [(D, (rangeInts a c k).map I)])) :
    WE prog w n mg mb K env nm oc (eval (.Call (.Name il pl) [.Call (.Name ir p₁) [e₁, e₂, e₃] [] p₂] [] pos) env) F H Q := by
  intro A hA P s E R st hR
  refine wpAny_Call_NameR (hl A hA P s E _ st fun v F' H' s₁ st₁ ⟨e1, x, hx, q1, q2⟩ => ?_)
  subst e1 q1 q2
  cases hx
  refine PyProof.Rows.callWith_type1 (wpAny_items_cons ?_ he) he
  refine wpAny_Call_NameR (hn A hA P s₁ E _ st₁ fun v F' H' s₂ st₂ ⟨e1, x, hx, q1, q2⟩ => ?_)
  subst e1 q1 q2
  cases hx
  refine PyProof.Rows.callWith_type1 (wpAny_items_cons (h A hA P s₂ E _ st₂ fun v F' H' s₃ st₃ ⟨e1, x, hx, q1, q2⟩ => ?_) he1) he1 (hplain := hp)
  subst e1 q1
  obtain ⟨t, rfl⟩ := hx
  refine wpAny_items_cons (q2 A hA P s₃ E _ st₃ fun v F' H' s₄ st₄ ⟨e1, x, hx, q3, q4⟩ => ?_) he2
  subst e1 q3
  obtain ⟨u, rfl⟩ := hx
  refine wpAny_items_cons (q4 A hA P s₄ E _ st₄ fun v F' H' s₅ st₅ ⟨e1, x, hx, q5, q6⟩ => wpAny_items_nil ?_) he3
  subst e1 q5
  obtain ⟨v, rfl⟩ := hx
  refine call_range_3 hc ?_ (.inl hdiv)
  refine wpAny_items_nil ?_
  generalize ho1 : ({ cls := .type "range", data := .fields #[.int a t, .int b u, .int c v] } : Obj) = o1
  have st₆ : St mg mb K P env nm oc F' H' { s₅ with heap := s₅.heap.push o1, toks := s₅.toks } := st₅.kept (s' := { s₅ with heap := s₅.heap.push o1, toks := s₅.toks }) (fun b o e => Heap.get?_push_of_some _ e) st₅.gens rfl
  refine list_of_range hA st₆ (a := a) (b := b) (c := c) (t := t) (u := u) (v := v) (k := k) (by subst ho1; exact Heap.get?_push_size _ rfl) hsmall hk hk2 fun s' D st' => ?_
  exact hR _ _ _ _ st' ⟨rfl, _, Vm.refl _, q6 D⟩

end
end Mine
end

section
open PySem PySem.W PyProof.Rows
set_option Elab.async false
set_option linter.unusedVariables false
namespace Mine
section
variable {prog : Program} {w : World} {n : Nat} {mg mb : Str → Option Value} {K : Shared} {env : Env} {nm : List (Str × NameKind)} {oc : Bool} {F : List (Option Value)} {H : List Ent}

/-- an enumerate upon a list's iterator, i items taken -/
noncomputable def EnumAt (e it l : Addr) (items : Array Value) (i : Nat) (h : Heap) : Prop := ∃ old, IsEnum h e it ((i : Nat) : Int) old ∧ h.IsListIter it l i ∧ h.IsList l items
theorem EnumAt.frame {e it l : Addr} {items : Array Value} {i : Nat} {h h' : Heap} (x : EnumAt e it l items i h) (k1 : ∀ o, h.get? e = some o → h'.get? e = some o) (k2 : ∀ o, h.get? it = some o → h'.get? it = some o) (k3 : ∀ o, h.get? l = some o → h'.get? l = some o) : EnumAt e it l items i h' := by
  obtain ⟨old, a, ⟨o, b1, b2⟩, ⟨o', c1, c2⟩⟩ := x
  exact ⟨old, k1 _ a, ⟨o, k2 _ b1, b2⟩, ⟨o', k3 _ c1, c2⟩⟩
theorem EnumAt.ex {e it l : Addr} {items : Array Value} {i : Nat} {h : Heap} (x : EnumAt e it l items i h) : ∀ b ∈ [e, it, l], ∃ o, h.get? b = some o ∧ ∀ ov, o.data ≠ .cell ov := by
  obtain ⟨old, a, ⟨o, b1, b2, b3⟩, ⟨o', c1, c2, k, c3⟩⟩ := x
  intro b hb
  rcases List.mem_cons.mp hb with rfl | hb
  · exact ⟨_, a, fun ov q => by cases q⟩
  · rcases List.mem_cons.mp hb with rfl | hb
    · exact ⟨o, b1, fun ov q => by rw [b3] at q; cases q⟩
    · rw [List.mem_singleton.mp hb]
      exact ⟨o', c1, fun ov q => by rw [c3] at q; cases q⟩
structure EnumOk (K : Shared) (P : List (Addr × Obj)) (env : Env) (nm : List (Str × NameKind)) (oc : Bool) (H : List Ent) (it : Value) (xs : List Value) (s : Shared) (e i l : Addr) (items : Array Value) : Prop where
  is : it = .ref e
  ei : e ≠ i
  le : l ≠ e
  li : l ≠ i
  at0 : EnumAt e i l items 0 s.heap
  val : Paired Vm xs items.toList
  wrK : ∀ b ∈ [e, i], K.heap.objs.size ≤ b ∧ ∀ p ∈ P, p.1 ≠ b
  wrO : ∀ b ∈ [e, i], Out K env nm oc H b

/-- a tree that gives an enumerate of the values xs -/
noncomputable def WIE (prog : Program) (w : World) (n : Nat) (mg mb : Str → Option Value) (K : Shared) (env : Env) (nm : List (Str × NameKind)) (oc : Bool) (m : Sem Value) (F : List (Option Value)) (H : List Ent) (xs : List Value) (Q : List Ent → Prop) : Prop :=
  ∀ A, Room n A → ∀ P s (E : Value → Shared → Prop) (R : Value → Shared → Prop), St mg mb K P env nm oc F H s →
    (∀ it H' s' e i l items, St mg mb K P env nm oc F H' s' → EnumOk K P env nm oc H' it xs s' e i l items → (∀ b ∈ [e, i, l], Out K env nm oc H' b) → Q H' → R it s') →
    wpAny (model prog w) A m (fun x s₁ => wpAny (model prog w) A (pyIter x) R E s₁) E s

theorem wie_list {id : Str} {p pos : Pos} {e : Expr} {xs : List Value} {Q : List Ent → Prop}
    (hn : WE prog w n mg mb K env nm oc (eval (.Name id p) env) F H fun f H₁ => f = .type "enumerate" ∧ H₁ = H)
    (he : starEach [e] env = (false, eval e env) :: starEach [] env)
    (h : WE prog w n mg mb K env nm oc (eval e env) F H fun v H₁ => ∃ a X, v = .ref a ∧ H₁ = X ++ [(a, xs)] ∧ Q X) :
    WIE prog w n mg mb K env nm oc (eval (.Call (.Name id p) [e] [] pos) env) F H xs Q := by
  intro A hA P s E R st hR
  refine wpAny_Call_NameR (hn A hA P s E _ st fun v F' H' s₁ st₁ z00 => z00.elim fun e1 z00 => z00.elim fun a z00 => z00.elim fun ha z00 => z00.elim fun q1 q2 => ?_)
  subst e1 q1 q2
  cases ha
  refine PyProof.Rows.callWith_type1 (wpAny_items_cons (h A hA P s₁ E _ st₁ fun v F' H' s₂ st₂ z00 => z00.elim fun e1 z00 => z00.elim fun b z00 => z00.elim fun hb z00 => z00.elim fun a z00 => z00.elim fun X z00 => z00.elim fun q1 z00 => z00.elim fun q2 q3 => wpAny_items_nil ?_) he) he
  subst e1 q1 q2
  cases hb
  have hmem : (a, xs) ∈ X ++ [(a, xs)] := by simp
  obtain ⟨hla, hKa⟩ := st₂.led _ hmem
  obtain ⟨vs, hl, hp⟩ := hla.rd
  have hsub : X.Sublist (X ++ [(a, xs)]) := List.sublist_append_left _ _
  have hno : ∀ e ∈ X, e.1 ≠ a := by
    intro e he q
    have := st₂.nod
    rw [List.map_append, List.nodup_append] at this
    exact this.2.2 _ (List.mem_map_of_mem he) _ (by simp) q
  refine call_enumerate_list hl fun h' he' hi' hz hk => ?_
  have st' : St mg mb K P env nm oc F' X { s₂ with heap := h' } := (st₂.kept (s' := { s₂ with heap := h' }) hk st₂.gens rfl).drop hsub
  have f1 := (st₂.drop hsub).fresh (b := s₂.heap.objs.size) (Nat.le_refl _)
  have f2 := (st₂.drop hsub).fresh (b := s₂.heap.objs.size + 1) (Nat.le_succ _)
  have hcell : oc = true → ∀ (i : Nat) (x : Str) (c : Addr), nm[i]? = some (x, NameKind.cell) → env.cells.lookup x = some c → c ≠ a := fun ho i x c hx hc => by
    obtain ⟨c', ov, h1, h2, _⟩ := st₂.cl i x .cell hx (.inl rfl)
    rw [hc] at h1
    cases h1
    exact Ne.symm (st₂.cellne hmem h2)
  have ha1 : a < s₂.heap.objs.size := hla.lt
  refine wpAny_pyIter_enum (s := { s₂ with heap := h' }) he' ?_
  refine hR _ _ _ _ _ a vs st' ⟨rfl, Nat.ne_of_gt (Nat.lt_succ_self _), Nat.ne_of_lt (Nat.lt_succ_of_lt ha1), Nat.ne_of_lt ha1, ⟨.none, he', hi', let ⟨o, e, r⟩ := hl; ⟨o, hk _ _ e, r⟩⟩, hp, ?_, ?_⟩ ?_ q3
  · intro b hb
    rcases List.mem_cons.mp hb with rfl | hb
    · exact ⟨f2.1, f2.2.2⟩
    · rw [List.mem_singleton.mp hb]; exact ⟨f1.1, f1.2.2⟩
  · intro b hb
    rcases List.mem_cons.mp hb with rfl | hb
    · exact f2.2.1
    · rw [List.mem_singleton.mp hb]; exact f1.2.1
  · intro b hb
    rcases List.mem_cons.mp hb with rfl | hb
    · exact f2.2.1
    · rcases List.mem_cons.mp hb with rfl | hb
      · exact f1.2.1
      · rw [List.mem_singleton.mp hb]
        exact ⟨st₂.kindne hmem, hno, hcell⟩

theorem ws_ForE {x y : Str} {px py tp : Pos} {tk0 : Nat} {iter : Expr} {body : List Stmt} {pos : Pos} {xs : List Value} {Q : Flow → List (Option Value) → List Ent → Prop} (Inv : Nat → List (Option Value) → List Ent → Prop)
    (hs : ∀ x, foldedSetIterable iter env x = pure x)
    (start : WIE prog w n mg mb K env nm oc (eval iter env) F H xs fun H' => Inv 0 F H')
    (turn : ∀ i F₁ H₁ a, Inv i F₁ H₁ → xs[i]? = some a → WN prog w n mg mb K env nm oc (assign (.Name x px) env) (I (i : Nat)) F₁ H₁ fun F₂ H₂ => WN prog w n mg mb K env nm oc (assign (.Name y py) env) a F₂ H₂ fun F₂ H₂ =>
      WS prog w n mg mb K env nm oc (execs body env) F₂ H₂ fun fl F₃ H₃ => match fl with
      | .next | .cont => Inv (i + 1) F₃ H₃
      | .brk => Q .next F₃ H₃
      | .ret v => Q (.ret v) F₃ H₃)
    (fin : ∀ F₁ H₁, Inv xs.length F₁ H₁ → Q .next F₁ H₁) : WS prog w n mg mb K env nm oc (exec (.For (.Tuple [.Name x px, .Name y py] tk0 tp) iter body [] pos) env) F H Q := by
  intro A hA P s E R st hR
  refine wpAny_For (start A hA P s E _ st fun it H' s' e0 i0 l0 items st' J hout q => ?_) hs
  obtain ⟨rfl, hei, hle, hli, at0, hpit, wrK, wrO⟩ := J
  let fp : List Addr := [e0, i0, l0]
  let wr : List Addr := [e0, i0]
  have hsub : ∀ b ∈ wr, b ∈ fp := fun b hb => by
    rcases List.mem_cons.mp hb with rfl | hb
    · exact List.mem_cons_self
    · rw [List.mem_singleton.mp hb]; exact List.mem_cons_of_mem _ List.mem_cons_self
  let Sv : Nat → Heap → Prop := fun i h => EnumAt e0 i0 l0 items i h
  have hfr : ∀ i h h', Sv i h → (∀ b ∈ fp, ∀ o, h.get? b = some o → h'.get? b = some o) → Sv i h' := fun i h h' q k => q.frame (k e0 List.mem_cons_self) (k i0 (List.mem_cons_of_mem _ List.mem_cons_self)) (k l0 (List.mem_cons_of_mem _ (List.mem_cons_of_mem _ List.mem_cons_self)))
  have ex : ∀ i h, Sv i h → ∀ b ∈ fp, ∃ o, h.get? b = some o ∧ ∀ ov, o.data ≠ .cell ov := fun i h q b hb => q.ex b hb
  have hit0 : items.size = xs.length := by have := Paired.len hpit; simpa using this.symm
  refine codeAny_forLoop_any (R := fun r s' => match r with | .ok f => R f s' | .error e => cameBackBy (model prog w) A env E e s')
    (fun k s₁ => ∃ i F₁ H₁, St mg mb K P env nm oc F₁ H₁ s₁ ∧ Sv i s₁.heap ∧ Inv i F₁ H₁ ∧ i ≤ xs.length ∧ k = xs.length + 1 - i ∧ ∀ b ∈ fp, Out K env nm oc H₁ b) ?_ (xs.length + 1)
    ⟨0, F, H', st', at0, q, Nat.zero_le _, rfl, hout⟩
  rintro k s₁ ⟨i, F₁, H₁, st₁, sv, inv, hi, rfl, ho⟩
  have hwr : ∀ b ∈ wr, K.heap.objs.size ≤ b ∧ Out K env nm oc H₁ b ∧ ∀ p ∈ P, p.1 ≠ b := fun b hb => ⟨(wrK b hb).1, ho b (hsub b hb), (wrK b hb).2⟩
  have hnc : ∀ b ∈ wr, ∀ ov, ¬ s₁.heap.IsCell b ov := fun b hb ov z00 => z00.elim fun o z00 => z00.elim fun h1 h2 => by
    obtain ⟨o', h3, h4⟩ := ex i s₁.heap sv b (hsub b hb)
    rw [h1] at h3
    cases h3
    exact h4 ov h2
  by_cases hlt : i < xs.length
  · obtain ⟨a, ha⟩ : ∃ a, xs[i]? = some a := ⟨_, List.getElem?_eq_getElem hlt⟩
    obtain ⟨v, hv, hm⟩ := Paired.get hpit ha
    have hv' : items[i]? = some v := by simpa using hv
    obtain ⟨old, se, si, sl⟩ := sv
    have heH : e0 < s₁.heap.objs.size := Heap.lt_size se
    have hiH : i0 < s₁.heap.objs.size := let ⟨o, h, _⟩ := si; Heap.lt_size h
    have hlH : l0 < s₁.heap.objs.size := let ⟨o, h, _⟩ := sl; Heap.lt_size h
    refine wpAny_pyNext_enum_item se si sl hv' hei fun h₁ heo hit₁ ht₁ hz₁ hk₁ => ?_
    refine wpAny_letOwnedTupleGo_enum heo fun h₂ he₂ hs₂ => ?_
    replace hs₂ : Heap.SameBut e0 h₁ h₂ := hs₂
    have ht₂ : h₂.IsTuple s₁.heap.objs.size #[.int i s₁.toks, v] := ⟨_, (hs₂.2 _ (Nat.ne_of_gt heH)).trans ht₁, rfl, _, rfl⟩
    have hz₂ : h₂.objs.size = s₁.heap.objs.size + 1 := hs₂.1.trans hz₁
    refine wpAny_assign_Tuple hA.1 ht₂ rfl rfl fun h₃ hx₃ => ?_
    replace hx₃ : Heap.ExtBut h₂.objs.size h₂ h₃ := hx₃
    have old₃ : ∀ b o, b < s₁.heap.objs.size → h₂.get? b = some o → h₃.get? b = some o := fun b o hb x => hx₃ b o (by rw [hz₂]; exact Nat.ne_of_lt (Nat.lt_succ_of_lt hb)) x
    have hk : ∀ b o, b ∉ wr → s₁.heap.get? b = some o → h₃.get? b = some o := fun b o hb e => by
      have hbe : b ≠ e0 := fun q => hb (q ▸ List.mem_cons_self)
      have hbi : b ≠ i0 := fun q => hb (q ▸ List.mem_cons_of_mem _ List.mem_cons_self)
      exact old₃ b o (Heap.lt_size e) ((hs₂.2 b hbe).trans (hk₁ b o hbe hbi e))
    have sv₂ : Sv (i + 1) h₃ := by
      refine ⟨v, ?_, ?_, ?_⟩
      · have : ((i + 1 : Nat) : Int) = (i : Int) + 1 := by push_cast; rfl
        rw [this]
        exact old₃ _ _ heH he₂
      · obtain ⟨o, q1, q2⟩ := hit₁.extBut hs₂.extBut (Ne.symm hei)
        exact ⟨o, old₃ _ _ hiH q1, q2⟩
      · obtain ⟨o, q1, q2⟩ := sl
        exact ⟨o, hk l0 o (fun h => by
          rcases List.mem_cons.mp h with h | h
          · exact hle h
          · exact hli (List.mem_singleton.mp h)) q1, q2⟩
    have st₂ : St mg mb K P env nm oc F₁ H₁ { s₁ with heap := h₃, toks := s₁.toks + 1 } := st₁.but (s' := { s₁ with heap := h₃, toks := s₁.toks + 1 }) hk st₁.gens rfl hwr hnc
    let G : List (Addr × Obj) := fp.filterMap fun b => (h₃.get? b).map fun o => (b, o)
    have hG : ∀ p ∈ G, p.1 ∈ fp ∧ h₃.get? p.1 = some p.2 := by
      intro p hp
      obtain ⟨b, hb, e⟩ := List.mem_filterMap.mp hp
      cases ho : h₃.get? b with
      | none => rw [ho] at e; cases e
      | some o => rw [ho] at e; cases e; exact ⟨hb, ho⟩
    have st₃ : St mg mb K (G ++ P) env nm oc F₁ H₁ { s₁ with heap := h₃, toks := s₁.toks + 1 } := ⟨st₂.ok, st₂.fr, st₂.cl, st₂.led, st₂.nod, fun p hp => by
      rcases List.mem_append.mp hp with hp | hp
      · obtain ⟨h1, h2⟩ := hG p hp
        obtain ⟨o1, o2, o3⟩ := ho p.1 h1
        exact ⟨h2, o1, o2, o3⟩
      · exact st₂.pro p hp, st₂.gens, st₂.os⟩
    have hin : ∀ b ∈ fp, ∃ o, (b, o) ∈ G := fun b hb => by
      obtain ⟨o, h1, _⟩ := ex (i + 1) h₃ sv₂ b hb
      exact ⟨o, List.mem_filterMap.mpr ⟨b, hb, by rw [h1]; rfl⟩⟩
    show wpAny _ A (do holding [v] (assign (.Name x px) env (.int i s₁.toks)); do holding [] (assign (.Name y py) env v); pure ()) _ _ _
    refine wpAny_bind (wpAny_holding ((turn i F₁ H₁ a inv ha) _ ⟨s₁.toks, rfl⟩ A hA (G ++ P) _ _ _ st₃ fun _ F₂ H₂ s₄ st₄ q₄ => ?_))
    refine wpAny_bind (wpAny_holding (q₄ v hm A hA (G ++ P) _ _ _ st₄ fun _ F₂ H₂ s₄ st₄ q₄ => wpAny_pure ?_))
    refine q₄ A hA (G ++ P) s₄ _ _ st₄ fun fl F₃ H₃ s₅ st₅ z00 => z00.elim fun fl' z00 => z00.elim fun hfl q₅ => ?_
    have back : St mg mb K P env nm oc F₃ H₃ s₅ := ⟨st₅.ok, st₅.fr, st₅.cl, st₅.led, st₅.nod, fun p hp => st₅.pro p (List.mem_append_right _ hp), st₅.gens, st₅.os⟩
    have sv₅ : Sv (i + 1) s₅.heap := hfr _ _ _ sv₂ fun b hb o e => by
      obtain ⟨o', hm'⟩ := hin b hb
      have h1 := (hG _ hm').2
      have h2 := (st₅.pro _ (List.mem_append_left _ hm')).1
      rw [h1] at e
      cases e
      exact h2
    have go : Inv (i + 1) F₃ H₃ → ∃ m, m < xs.length + 1 - i ∧ ∃ i F₁ H₁, St mg mb K P env nm oc F₁ H₁ s₅ ∧ Sv i s₅.heap ∧ Inv i F₁ H₁ ∧ i ≤ xs.length ∧ m = xs.length + 1 - i ∧ ∀ b ∈ fp, Out K env nm oc H₁ b := fun q =>
      ⟨xs.length + 1 - (i + 1), by omega, i + 1, F₃, H₃, back, sv₅, q, hlt, rfl, fun b hb => by
        obtain ⟨o', hm'⟩ := hin b hb
        exact (st₅.pro _ (List.mem_append_left _ hm')).2⟩
    cases fl' with
    | next => cases hfl; exact go q₅
    | cont => cases hfl; exact go q₅
    | brk => cases hfl; exact hR _ _ _ _ back ⟨.next, rfl, q₅⟩
    | ret u => obtain ⟨u', rfl, hu⟩ := hfl; exact hR _ _ _ _ back ⟨.ret u, ⟨u', rfl, hu⟩, q₅⟩
  · have e : i = xs.length := by omega
    subst e
    obtain ⟨old, se, si, sl⟩ := sv
    refine wpAny_pyNext_enum_end hA.1 se si sl (Array.getElem?_eq_none (by omega)) fun h₂ hk₀ => wpAny_execs_nil ?_
    have hk : ∀ b o, b ∉ wr → s₁.heap.get? b = some o → h₂.get? b = some o := fun b o hb e => hk₀ b o (fun q => hb (q ▸ List.mem_cons_of_mem _ List.mem_cons_self)) e
    have st₂ : St mg mb K P env nm oc F₁ H₁ { s₁ with heap := h₂ } := st₁.but (s' := { s₁ with heap := h₂ }) hk st₁.gens rfl hwr hnc
    exact hR _ _ _ _ st₂ ⟨.next, rfl, fin F₁ H₁ inv⟩

end
end Mine
end

section
open PySem PySem.W PyProof.Rows
set_option Elab.async false
set_option linter.unusedVariables false
set_option maxRecDepth 100000
namespace Mine

mutual
/-- the data that a value is, read over the lists in view -/
inductive RdD (K : Shared) (H : List Ent) : Value → PyData → Prop
  | int (i t) : RdD K H (.int i t) (.int i)
  | str (x t) : RdD K H (.str x t) (.str x)
  | list {a xs ds} : Rd K H a xs → RdDs K H xs ds → RdD K H (.ref a) (.list ds)
inductive RdDs (K : Shared) (H : List Ent) : List Value → List PyData → Prop
  | nil : RdDs K H [] []
  | cons {v d vs ds} : RdD K H v d → RdDs K H vs ds → RdDs K H (v :: vs) (d :: ds)
end

section
variable {prog : Program} {w : World} {n : Nat} {mg mb : Str → Option Value} {K : Shared} {env : Env} {nm : List (Str × NameKind)} {oc : Bool} {F : List (Option Value)} {H : List Ent} {P : List (Addr × Obj)} {s : Shared}

mutual
theorem RdD.reads (st : St mg mb K P env nm oc F H s) : ∀ {v : Value} {d : PyData}, RdD K H v d → ∀ v', Vm v v' → ∃ as, Reads s.heap v' d as
  | _, _, .int i t, v', hv => by obtain ⟨u, rfl⟩ := hv; exact ⟨_, .int i u⟩
  | _, _, .str x t, v', hv => by obtain ⟨u, rfl⟩ := hv; exact ⟨_, .str x u⟩
  | _, _, .list (a := a) hr hs, v', hv => by
    cases hv
    obtain ⟨vs, ⟨o, h1, h2, k, h3⟩, hp⟩ := hr.at' st
    obtain ⟨as, h4⟩ := RdDs.reads st hs vs.toList hp
    exact ⟨_, .list h1 h2 h3 h4⟩
theorem RdDs.reads (st : St mg mb K P env nm oc F H s) : ∀ {vs : List Value} {ds : List PyData}, RdDs K H vs ds → ∀ vs', Paired Vm vs vs' → ∃ as, ReadsAll s.heap vs' ds as
  | _, _, .nil, vs', hv => by cases hv; exact ⟨_, .nil⟩
  | _, _, .cons h1 h2, vs', hv => by
    cases hv with
    | cons g1 g2 =>
      obtain ⟨as, r1⟩ := RdD.reads st h1 _ g1
      obtain ⟨bs, r2⟩ := RdDs.reads st h2 _ g2
      exact ⟨_, .cons r1 r2⟩
end

/-- a == b of data -/
theorem wc_eqD {a b : Value} {da db : PyData} {Q : Value → List Ent → Prop} (ha : RdD K H a da) (hb : RdD K H b db) (la : da.canLay0 = true) (lb : db.canLay0 = true) (hd : min da.depth db.depth ≤ 60) (h : Q (.bool (PyData.eqv da db)) H) :
    WB prog w n mg mb K env nm oc (compareOp .Eq) a b F H Q := by
  intro a' b' h1 h2 A hA P s E R st hR
  obtain ⟨as, r1⟩ := ha.reads st a' h1
  obtain ⟨bs, r2⟩ := hb.reads st b' h2
  exact PySem.SeqAt.compareEq_reads r1 r2 la lb (by show A.units + min da.depth db.depth < 9900; have := hA.2.2; omega) (hR _ _ _ _ st ⟨rfl, _, Vm.refl _, h⟩)
/-- x in a list of data -/
theorem wc_inD {x : Value} {a : Addr} {d : PyData} {ds : List PyData} {Q : Value → List Ent → Prop} (hx : RdD K H x d) (ha : RdD K H (.ref a) (.list ds)) (ld : d.canLay0 = true) (la : PyData.canLayAll0 ds = true) (hd : d.depth ≤ 60) (h : Q (.bool (ds.any fun y => PyData.eqv y d)) H) :
    WB prog w n mg mb K env nm oc (compareOp .In) x (.ref a) F H Q := by
  intro x' a' h1 h2 A hA P s E R st hR
  obtain ⟨as, r1⟩ := hx.reads st x' h1
  obtain ⟨bs, r2⟩ := ha.reads st a' h2
  exact PySem.SeqAt.in_list_reads r2 r1 la ld (by show A.units + 1 + min (PyData.depthAll ds) d.depth < 9900; have := hA.2.2; omega) (hR _ _ _ _ st ⟨rfl, _, Vm.refl _, h⟩)

/-- an int in a set that stood -/
theorem wc_inSet {i : Int} {t : Tok} {a : Addr} {Sx : Int → Bool} {k : Nat} {Q : Value → List Ent → Prop} (hs : ∀ s : Shared, (∀ b o, K.heap.get? b = some o → s.heap.get? b = some o) → s.heap.SetOf (intKind prog w) a Sx k) (h : Q (.bool (Sx i)) H) :
    WB prog w n mg mb K env nm oc (compareOp .In) (.int i t) (.ref a) F H Q := by
  rintro _ _ ⟨t, rfl⟩ rfl A hA P s E R st hR
  exact wpAny_inSet_of (knd := intKind prog w) (k := i) (by show (i == i) = true; simp) rfl (hs s st.keep) (hR _ _ _ _ (st.tok _) ⟨rfl, _, Vm.refl _, h⟩)

/-- d.get(i) of a dict that stood -/
theorem we_dictGet {i : Int} {d : Addr} {v : Value} {e : Expr} {pos : Pos} {f : Int → Option Value} {a : Value} {Q : Value → List Ent → Prop} (hv : Vm (.ref d) v) (hd : (d == sysModules) = false)
    (hs : ∀ s : Shared, (∀ b o, K.heap.get? b = some o → s.heap.get? b = some o) → s.heap.MapOf (intKind prog w) d f) (he : starEach [e] env = (false, eval e env) :: starEach [] env)
    (h : WE prog w n mg mb K env nm oc (eval e env) F H fun k H₁ => k = I i ∧ Vm a ((f i).getD .none) ∧ Q a H₁) :
    WE prog w n mg mb K env nm oc (callWith pos (.builtin "dict.get") [v] (backTo pos (starEach [e] env)) []) F H Q := by
  intro A hA P s E R st hR
  cases hv
  rw [he]
  show wpAny _ A (callWith pos (.builtin "dict.get") [.ref d] [(false, eval e env)] []) R E s
  refine wpAny_dict_get1 (knd := intKind prog w) hd (h A hA P s E _ st fun v F' H' s₁ st₁ z00 => z00.elim fun e1 z00 => z00.elim fun x z00 => z00.elim fun hx z00 => z00.elim fun q1 z00 => z00.elim fun q2 q3 => ?_)
  subst e1 q1
  obtain ⟨t, rfl⟩ := hx
  exact ⟨i, f, by show (i == i) = true; simp, hs s₁ st₁.keep, hR _ _ _ _ (st₁.tok _) ⟨rfl, a, q2, q3⟩⟩

theorem preSum_list : ∀ (ns : List Int) (k : Nat), k ≤ ns.length → preSum (fun j => ns.getD j 0) k = (ns.take k).sum
  | ns, 0, _ => by simp [preSum]
  | ns, k + 1, h => by
    rw [preSum, preSum_list ns k (by omega), List.take_succ_eq_append_getElem (by omega), List.sum_append]
    simp [List.getD_eq_getElem?_getD, List.getElem?_eq_getElem (show k < ns.length by omega)]
theorem sum_bound : ∀ (ns : List Int) (c : Int), (∀ i ∈ ns, 0 ≤ i ∧ i ≤ c) → 0 ≤ ns.sum ∧ ns.sum ≤ c * ns.length
  | [], c, _ => by simp
  | i :: r, c, h => by
    obtain ⟨h1, h2⟩ := sum_bound r c fun j hj => h j (List.mem_cons_of_mem _ hj)
    obtain ⟨h3, h4⟩ := h i List.mem_cons_self
    simp only [List.sum_cons, List.length_cons]
    have e : c * ((r.length + 1 : Nat) : Int) = c * (r.length : Int) + c := by push_cast; rw [Int.mul_add, Int.mul_one]
    rw [e]
    omega

/-- sum(ints) -/
theorem wc_sum {l : Addr} {ns : List Int} {Q : Value → List Ent → Prop} (hr : Rd K H l (ns.map I)) (hb : ∀ i ∈ ns, 0 ≤ i ∧ i ≤ 1000) (hn : ns.length ≤ 1000) (h : Q (I ns.sum) H) : WC prog w (n + 1) mg mb K env nm oc (.builtin "sum") [.ref l] F H Q := by
  intro vs hvs A hA P s E R st hR
  cases hvs with
  | cons h1 h2 =>
    cases h1
    cases h2
    obtain ⟨us, hl, hp⟩ := hr.at' st
    have e1 : us.size = ns.length := by have := Paired.len hp; simpa using this.symm
    refine call_sum_walkS (wpAny_pyIter_list hl ?_)
    generalize ho2 : ({ cls := .type "list_iterator", data := .fields #[.ref l, .int 0 0] } : Obj) = o2
    have hlt : l < s.heap.objs.size := let ⟨_, e, _⟩ := hl; Heap.lt_size e
    have st₂ := st.kept (s' := { s with heap := s.heap.push o2 }) (fun b o e => Heap.get?_push_of_some _ e) st.gens rfl
    have hf := st.fresh (b := s.heap.objs.size) (Nat.le_refl _)
    refine ⟨s.heap.objs.size, [s.heap.objs.size, l], [s.heap.objs.size], _, ns.length, _, _, fun j => ns.getD j 0, rfl, e1 ▸ (Walks.list (Room.in1 hA).1 s.heap.objs.size l (Nat.ne_of_lt hlt) us).toS, ?_, ?_, ?_, ?_, ?_⟩
    · refine ⟨⟨o2, Heap.get?_push_size _ (by subst ho2; rfl), by subst ho2; rfl, by subst ho2; rfl⟩, ?_⟩
      obtain ⟨o, h1, h2⟩ := hl
      exact ⟨o, Heap.get?_push_of_some _ h1, h2⟩
    · intro b hb'
      show b < (s.heap.push o2).objs.size
      rw [Heap.size_push]
      rcases List.mem_cons.mp hb' with rfl | hb'
      · exact Nat.lt_succ_self _
      · rw [List.mem_singleton.mp hb']; exact Nat.lt_succ_of_lt hlt
    · intro i v hv
      have hi : i < us.size := (Array.getElem?_eq_some_iff.mp hv).1
      have hx : (ns.map I)[i]? = some (I (ns.getD i 0)) := by
        rw [List.getElem?_map, List.getD_eq_getElem?_getD, List.getElem?_eq_getElem (show i < ns.length by omega)]; rfl
      obtain ⟨v', g1, g2⟩ := Paired.get hp hx
      have : us.toList[i]? = some v := by simpa using hv
      rw [this] at g1
      cases g1
      exact g2
    · intro j hj
      have hm : ns.getD j 0 ∈ ns := by
        rw [List.getD_eq_getElem?_getD, List.getElem?_eq_getElem hj]; exact List.getElem_mem hj
      have b1 := hb _ hm
      have b2 := sum_bound (ns.take (j + 1)) 1000 fun i hi => hb i (List.mem_of_mem_take hi)
      rw [preSum_list ns (j + 1) (by omega)]
      have hle : (ns.take (j + 1)).length ≤ 1000 := by rw [List.length_take]; omega
      refine ⟨⟨by show -(2 ^ 63) ≤ ns.getD j 0; omega, by show ns.getD j 0 < 2 ^ 63; omega⟩, ⟨by omega, ?_⟩⟩
      have : (1000 : Int) * ((ns.take (j + 1)).length : Int) ≤ 1000 * 1000 := by omega
      omega
    · intro s' t' M
      rw [preSum_list ns ns.length (Nat.le_refl _), List.take_length]
      have st' : St mg mb K P env nm oc F H s' := st₂.but M.heap (M.gens.trans st₂.gens) M.os (fun b hb' => by
        rw [List.mem_singleton.mp hb']; exact hf) fun b hb' ov hc => by
        rw [List.mem_singleton.mp hb'] at hc
        obtain ⟨o, g1, g2⟩ := hc
        have g3 : (s.heap.push o2).get? s.heap.objs.size = some o2 := Heap.get?_push_size _ (by subst ho2; rfl)
        rw [g3] at g1
        cases g1
        subst ho2
        cases g2
      exact hR _ _ _ _ st' ⟨rfl, I ns.sum, ⟨t', rfl⟩, h⟩
end
end Mine
end

section
open PySem PySem.W PyProof.Rows
set_option Elab.async false
set_option linter.unusedVariables false
set_option maxRecDepth 100000
namespace Mine

theorem plainAttrs_rePattern : PlainAttrs "re.Pattern" :=
  ⟨⟨"object.__getattribute__", by rw [typeLookup_type, builtinLookup_eq_fast]; kernel_rfl, by decide +kernel⟩, by rw [typeLookup_type, builtinLookup_eq_fast]; kernel_rfl⟩
theorem slot_rePattern_sub : Slot "re.Pattern" "sub" "re.Pattern.sub" :=
  .of (owner := "re.Pattern") (n := "sub") (by rw [typeLookup_type, builtinLookup_eq_fast]; kernel_rfl) (by decide +kernel) (by decide +kernel) (by decide +kernel)
    (by first | exact .inl (by decide +kernel) | exact .inr (by decide +kernel)) (by rw [isSubtype_type]; kernel_rfl)
theorem type_rePattern_sub : typeOf (.builtin "re.Pattern.sub") = pure (.type "method_descriptor") := by kernel_rfl
theorem entry_rePattern_sub : entryFor table "re.Pattern.sub" = some Builtin.«re.Pattern.sub» := entryFor_of_tree (by kernel_rfl)
theorem entry_rePattern_loop : entryFor table "re.Pattern.sub.loop" = some Builtin.«re.Pattern.sub.loop» := entryFor_of_tree (by kernel_rfl)
theorem args_rePattern_sub (a b c : Value) : argsOk "re.Pattern.sub" ⟨[a, b, c], []⟩ := by unfold argsOk; kernel_rfl
theorem nolookup_str_call : typeLookup (.type "str") "__call__" = pure none := by rw [typeLookup_type, builtinLookup_eq_fast]; kernel_rfl
theorem plain_loop : plainId "re.Pattern.sub.loop" = true := by decide +kernel

noncomputable def PatAt (h : Heap) (p : Addr) (code : Array Nat) : Prop := ∃ o fs co oc items k, h.get? p = some o ∧ o.cls = .type "re.Pattern" ∧ o.dict = none ∧ o.data = .fields fs ∧ fs.getD 5 .none = .ref co ∧ Builtin.Re.reRawNat (fs.getD 6 .none) = 0 ∧ Builtin.Re.reRawNat (fs.getD 2 .none) = 0 ∧
  h.get? co = some oc ∧ oc.data = .seq items k ∧ oc.cls ≠ .type "list" ∧ (items.map Builtin.Re.reRawOf).map (·.toNat) = code
theorem PatAt.keeps {h h' : Heap} {p : Addr} {code : Array Nat} (x : PatAt h p code) (k : ∀ b o, h.get? b = some o → h'.get? b = some o) : PatAt h' p code := by
  obtain ⟨o, fs, co, oc, items, j, a, b, c, d, e, f, g, i, r⟩ := x
  exact ⟨o, fs, co, oc, items, j, k _ _ a, b, c, d, e, f, g, k _ _ i, r⟩

section
variable {prog : Program} {w : World} {A : Around} {E : Value → Shared → Prop} {s : Shared}

theorem whole_ok {p : Addr} {code : Array Nat} {x : Str} {t : Tok} {Q : Builtin.Re.ReTarget → Shared → Prop} (hp : PatAt s.heap p code)
    (h : Q { pattern := .ref p, string := .str x t, code := code, text := x.cps, kind := 0, groups := 0, pos := 0, lim := x.cps.size } s) : wpAny (model prog w) A (Builtin.Re.reWholeTarget (.ref p) (.str x t)) Q E s := by
  obtain ⟨o, fs, co, oc, items, k, h1, h2, h3, h4, h5, h6, h7, h8, h9, _, h10⟩ := hp
  unfold Builtin.Re.reWholeTarget
  refine wpAny_bind (wpAny_fieldsOf h1 h4 ?_)
  refine wpAny_bind ?_
  show wpAny _ A (pure (x.cps, 0)) _ E s
  refine wpAny_pure ?_
  dsimp only
  rw [h6, h7]
  show wpAny _ A (Builtin.Re.reRawItems (fs.getD 5 .none) >>= _) Q E s
  rw [h5]
  unfold Builtin.Re.reRawItems seqItems?
  refine wpAny_bind (wpAny_bind (wpAny_bind (wpAny_load h8 ?_)))
  rw [h9]
  refine wpAny_pure (wpAny_pure (wpAny_pure ?_))
  dsimp only [Option.getD]
  rw [h10]
  exact h

theorem drive_ok : ∀ (turns : Nat) (m : Sre.M) (k : Nat) (s : Shared) (Q : Sre.M → Shared → Prop), (m.runFor k).outcome.isSome = true → k ≤ 4 * turns → 0 < turns → Q (m.runFor k) s → wpAny (model prog w) A (Builtin.Re.reDrive turns m) Q E s
  | 0, _, _, _, _, _, _, h, _ => absurd h (Nat.lt_irrefl _)
  | turns + 1, m, k, s, Q, h1, h2, _, h => by
    unfold Builtin.Re.reDrive
    show wpAny _ A (if (m.runFor 4).outcome.isSome = true then pure (m.runFor 4) else do rule "sre.turn"; Builtin.Re.reDrive turns (m.runFor 4)) Q E s
    by_cases hk : k ≤ 4
    · have e : m.runFor 4 = m.runFor k := by
        have := runFor_add k (4 - k) m
        rw [show k + (4 - k) = 4 by omega] at this
        rw [this, runFor_out h1]
      rw [e, if_pos h1]
      exact wpAny_pure h
    · cases q : (m.runFor 4).outcome.isSome with
      | true =>
        have e : m.runFor 4 = m.runFor k := by
          have := runFor_add 4 (k - 4) m
          rw [show 4 + (k - 4) = k by omega] at this
          rw [this, runFor_out q]
        rw [if_pos rfl, e]
        exact wpAny_pure h
      | false =>
        rw [if_neg (by decide)]
        have e : m.runFor k = (m.runFor 4).runFor (k - 4) := by
          have := runFor_add 4 (k - 4) m
          rw [show 4 + (k - 4) = k by omega] at this
          exact this
        rw [e] at h1 h
        exact wpAny_bind (wpAny_rule (drive_ok turns (m.runFor 4) (k - 4) s Q h1 (by omega) (by omega) h))

theorem forIn_rules {l : List Nat} {f : Nat → PUnit → Sem (ForInStep PUnit)} (hf : ∀ i u s Q, Q (ForInStep.yield ⟨⟩) s → wpAny (model prog w) A (f i u) Q E s) {Q : PUnit → Shared → Prop} (h : Q ⟨⟩ s) : wpAny (model prog w) A (forIn l ⟨⟩ f) Q E s := by
  induction l with
  | nil => rw [List.forIn_nil]; exact wpAny_pure h
  | cons i r ih => rw [List.forIn_cons]; exact wpAny_bind (hf i _ s _ ih)

theorem next_ok {t : Builtin.Re.ReTarget} {st : Nat} {must : Bool} {o : Option (Nat × Nat)} {N : Nat} {Q : Option Sre.M → Shared → Prop} (hg : EndsIn N (Sre.forSearch t.code t.text t.groups st t.lim must) (Got o)) (hN : N ≤ 2 ^ 60)
    (h1 : ∀ m b e, o = some (b, e) → m.start = b → m.handed = e → Q (some m) s) (h2 : o = none → Q none s) : wpAny (model prog w) A (Builtin.Re.reNextFound t st must) Q E s := by
  obtain ⟨k, hk, hs, hG⟩ := hg
  unfold Builtin.Re.reNextFound Builtin.Re.reRunToEnd
  have h60 : (2 : Nat) ^ 60 ≤ 4 * 2 ^ 64 := by decide
  refine wpAny_bind (drive_ok (2 ^ 64) _ k s _ hs (by omega) (by decide) ?_)
  refine wpAny_bind (forIn_rules (fun i u s Q q => ?_) ?_)
  · split
    · exact wpAny_bind (wpAny_rule (wpAny_pure q))
    · exact wpAny_pure q
  · generalize Sre.M.runFor k _ = m at hG
    cases o with
    | none =>
      have e : m.outcome = some .failed := hG
      rw [e]
      exact wpAny_pure (h2 rfl)
    | some be =>
      obtain ⟨b, e⟩ := be
      obtain ⟨e1, e2, e3⟩ := hG
      rw [e1]
      exact wpAny_pure (h1 m b e rfl e2 e3)
end

/-- the pieces of the text behind the replacements -/
noncomputable def pieces (x r : Str) (next : Nat → Option (Nat × Nat)) : Nat → Nat → List Str
  | 0, done => if done < x.cps.size then [⟨x.cps.extract done x.cps.size⟩] else []
  | f + 1, done => match next done with
    | some (b, e) => (if done < b then [⟨x.cps.extract done b⟩] else []) ++ r :: pieces x r next f e
    | none => if done < x.cps.size then [⟨x.cps.extract done x.cps.size⟩] else []

theorem extract_len {x : Str} {a b : Nat} (h : x.length ≤ 1000000) : (⟨x.cps.extract a b⟩ : Str).length ≤ 1000000 := by
  show (x.cps.extract a b).size ≤ _
  rw [Array.size_extract]
  have : x.cps.size ≤ 1000000 := h
  omega
section
variable {prog : Program} {w : World} {A : Around} {E : Value → Shared → Prop}

theorem push_ok {M : Model} {l : Addr} {vs : Array Value} {v : Value} {s : Shared} {Q : Unit → Shared → Prop} (hl : s.heap.PlainList l vs) (hz : vs.size ≤ 1000000)
    (h : ∀ h', h'.PlainList l (vs.push v) → Heap.SameBut l s.heap h' → Q () { s with heap := h' }) : wpAny M A (updateSeq l (·.push v)) Q E s := by
  obtain ⟨k, ho⟩ := hl
  refine wpAny_updateSeq ho rfl (h _ ⟨_, Heap.get?_update_self _ ho rfl⟩ (Heap.SameBut.update ..)) (by rw [sizeLine_eq]; omega) ?_
  rw [sizeLine_eq]
  simp
  try omega

theorem slice_ok {M : Model} {x : Str} {b e : Nat} {s : Shared} {Q : Value → Shared → Prop} (hx : x.length ≤ 1000000) (h : Q (.str ⟨x.cps.extract b e⟩ s.toks) { s with toks := s.toks + 1 }) : wpAny M A (Builtin.Re.reSlice x.cps 0 b e) Q E s := by
  have hlen := extract_len (a := b) (b := e) hx
  show wpAny M A (mkStr ⟨x.cps.extract b e⟩) Q E s
  unfold mkStr
  rw [if_neg (by rw [sizeLine_eq]; omega)]
  exact fun _ _ _ => h

/-- the loop of a substitution by a written text -/
theorem loop_ok {p : Addr} {code : Array Nat} {x r : Str} {t u : Tok} {next : Nat → Option (Nat × Nat)} {N : Nat} (hx : x.length ≤ 1000000) (hN : N ≤ 2 ^ 60)
    (hs : ∀ st must, st ≤ x.cps.size → EndsIn N (Sre.forSearch code x.cps 0 st x.cps.size must) (Got (next st))) (hnext : ∀ st b e, next st = some (b, e) → st ≤ b ∧ b < e ∧ e ≤ x.cps.size) :
    ∀ (f done : Nat) (k : Int) (must : Bool) (l : Addr) (ys : List Str) (s : Shared) (R : Result → Shared → Prop), x.cps.size - done < f → done ≤ x.cps.size → PatAt s.heap p code → LstAt s.heap l (ys.map S) → ys.length + 2 * f ≤ 100000 →
      (((ys ++ pieces x r next f done).map (·.length)).sum ≤ 16777216) →
      (∀ t' h' tk, (∀ b o, b ≠ l → s.heap.get? b = some o → h'.get? b = some o) → R (.ok (.ret (.str (Txt.join Str.empty (ys ++ pieces x r next f done)) t'))) { s with heap := h', toks := tk }) →
      codeAny (model prog w) A (.builtin "re.Pattern.sub.loop" ⟨[.ref p, .str x t, .str r u, rawInt 0, rawInt 0, rawInt k, rawInt done, rawInt done, .bool must, .ref l, .bool false], []⟩) R s
  | 0, done, k, must, l, ys, s, R, h1, _, _, _, _, _, _ => absurd h1 (Nat.not_lt_zero _)
  | f + 1, done, k, must, l, ys, s, R, h1, hd, hp, hl, hlen, hsum, hR => by
    refine codeAny_builtin entry_rePattern_loop ?_
    rw [Around.under_plainId plain_loop]
    show wpAny _ A.in1 (Builtin.Re.reWholeTarget (.ref p) (.str x t) >>= _) _ _ s
    refine wpAny_bind (whole_ok hp ?_)
    show wpAny _ A.in1 (Builtin.Re.reLiteralCannotBeTurned (.str r u) >>= _) _ _ s
    refine wpAny_bind ?_
    show wpAny _ A.in1 (pure ()) _ _ s
    refine wpAny_pure ?_
    show wpAny _ A.in1 (Builtin.Re.reNextFound _ (((done : Nat) : Int).toNat) must >>= _) _ _ s
    rw [Int.toNat_natCast]
    obtain ⟨vs, hpl, hpr⟩ := hl
    have hvs : vs.size = ys.length := by have := Paired.len hpr; simpa using this.symm
    refine wpAny_bind (next_ok (hs done must hd) hN (fun m b e ho hm1 hm2 => ?_) fun ho => ?_)
    · obtain ⟨g1, g2, g3⟩ := hnext done b e ho
      have hp1 : pieces x r next (f + 1) done = (if done < b then [⟨x.cps.extract done b⟩] else []) ++ r :: pieces x r next f e := by
        conv => lhs; unfold pieces
        rw [ho]
      show wpAny _ A.in1 (do
        if ((done : Nat) : Int).toNat < m.start then updateSeq l (·.push (← Builtin.Re.reSlice x.cps 0 ((done : Nat) : Int).toNat m.start))
        updateSeq l (·.push (.str r u))
        again (.builtin "re.Pattern.sub.loop" ⟨[.ref p, .str x t, .str r u, rawInt 0, rawInt 0, rawInt (k + 1), rawInt m.handed, rawInt m.handed, .bool (m.handed == m.start), .ref l, .bool false], []⟩)) _ _ s
      rw [Int.toNat_natCast, hm1, hm2]
      have last : ∀ (zs : List Str) (us : Array Value) (h' : Heap) (tk : Nat), h'.PlainList l us → Paired Vm (zs.map S) us.toList → (∀ b o, b ≠ l → s.heap.get? b = some o → h'.get? b = some o) → zs = ys ++ (if done < b then [⟨x.cps.extract done b⟩] else []) →
          wpAny (model prog w) A.in1 (do
            updateSeq l (·.push (.str r u))
            again (.builtin "re.Pattern.sub.loop" ⟨[.ref p, .str x t, .str r u, rawInt 0, rawInt 0, rawInt (k + 1), rawInt e, rawInt e, .bool (e == b), .ref l, .bool false], []⟩)) (fun fin s' => match fin with | .done f => R (.ok f) s' | .again c' => c'.quiet = true ∧ codeAny (model prog w) A c' R s') (fun e s' => R (.error e) s') { s with heap := h', toks := tk } := by
        intro zs us h' tk hpl' hpr' hk hz
        have hus : us.size = zs.length := by have := Paired.len hpr'; simpa using this.symm
        have hzl : zs.length ≤ ys.length + 1 := by rw [hz]; split <;> simp
        refine wpAny_bind (push_ok hpl' (by omega) fun h'' hpl'' hsb => ?_)
        have hsb' : Heap.SameBut l h' h'' := hsb
        have hk2 : ∀ b o, b ≠ l → s.heap.get? b = some o → h''.get? b = some o := fun b o hb e => (hsb'.2 b hb).trans (hk b o hb e)
        have hpne : ∀ b o, s.heap.get? b = some o → o.cls ≠ .type "list" → b ≠ l := fun b o e1 e2 q => by
          subst q
          obtain ⟨k', e3⟩ := hpl
          rw [e1] at e3
          cases e3
          exact e2 rfl
        have hp' : PatAt h'' p code := by
          obtain ⟨o, fs, co, oc, items, j, a, b', c, d, e', f', g, i, q, q', rr⟩ := hp
          exact ⟨o, fs, co, oc, items, j, hk2 _ _ (hpne p o a (by rw [b']; decide)) a, b', c, d, e', f', g, hk2 _ _ (hpne co oc i q') i, q, q', rr⟩
        refine wpAny_pure ⟨plainId_quiet plain_loop _, ?_⟩
        have e1 : (ys ++ ((if done < b then [⟨x.cps.extract done b⟩] else []) ++ r :: pieces x r next f e)) = (zs ++ [r]) ++ pieces x r next f e := by rw [hz]; simp
        rw [hp1, e1] at hsum hR
        refine loop_ok hx hN hs hnext f e (k + 1) (e == b) l (zs ++ [r]) _ R (by omega) g3 hp' ⟨_, hpl'', ?_⟩ (by simp; omega) hsum fun t' h3 tk' hk3 => hR t' h3 tk' fun b o hb e => hk3 b o hb (hk2 b o hb e)
        rw [Array.toList_push, List.map_append]
        exact Paired.snoc hpr' ⟨u, rfl⟩
      by_cases hlt : done < b
      · rw [if_pos hlt] at last
        simp only [hlt, if_true]
        refine wpAny_bind (slice_ok hx (wpAny_bind (push_ok hpl (by omega) fun h' hpl' hsb => ?_)))
        refine last (ys ++ [⟨x.cps.extract done b⟩]) _ h' _ hpl' ?_ (fun b o hb e => (hsb.2 b hb).trans e) rfl
        rw [Array.toList_push, List.map_append]
        exact Paired.snoc hpr ⟨_, rfl⟩
      · rw [if_neg hlt] at last
        simp only [hlt, if_false]
        exact last ys vs s.heap s.toks hpl hpr (fun _ _ _ e => e) (by simp)
    · have hp1 : pieces x r next (f + 1) done = (if done < x.cps.size then [⟨x.cps.extract done x.cps.size⟩] else []) := by
        conv => lhs; unfold pieces
        rw [ho]
      show wpAny _ A.in1 (do
        if ((done : Nat) : Int).toNat < x.cps.size then updateSeq l (·.push (← Builtin.Re.reSlice x.cps 0 ((done : Nat) : Int).toNat x.cps.size))
        let joiner ← Builtin.Re.reSlice x.cps 0 0 0
        let text ← if ((← seqItems? (.ref l)).getD #[]).isEmpty then pure joiner
          else call (.builtin (if (0 : Nat) == 0 then "str.join" else "bytes.join")) [joiner, .ref l]
        if false = true then ret (← holding [text] do newTuple [text, ← mkInt k]) else ret text) _ _ s
      rw [Int.toNat_natCast]
      have hnil : Str.empty = (⟨x.cps.extract 0 0⟩ : Str) := by
        show (⟨#[]⟩ : Str) = _
        rw [Array.extract_empty_of_stop_le_start (Nat.le_refl _)]
      have last : ∀ (zs : List Str) (us : Array Value) (h' : Heap) (tk : Nat), h'.PlainList l us → Paired Vm (zs.map S) us.toList → (∀ b o, b ≠ l → s.heap.get? b = some o → h'.get? b = some o) → zs = ys ++ pieces x r next (f + 1) done →
          wpAny (model prog w) A.in1 (do
            let joiner ← Builtin.Re.reSlice x.cps 0 0 0
            let text ← if ((← seqItems? (.ref l)).getD #[]).isEmpty then pure joiner
              else call (.builtin (if (0 : Nat) == 0 then "str.join" else "bytes.join")) [joiner, .ref l]
            if false = true then ret (← holding [text] do newTuple [text, ← mkInt k]) else ret text) (fun fin s' => match fin with | .done f => R (.ok f) s' | .again c' => c'.quiet = true ∧ codeAny (model prog w) A c' R s') (fun e s' => R (.error e) s') { s with heap := h', toks := tk } := by
        intro zs us h' tk hpl' hpr' hk hz
        rw [← hz] at hsum hR
        refine wpAny_bind (slice_ok hx ?_)
        obtain ⟨k', ho'⟩ := id hpl'
        refine wpAny_bind ?_
        unfold seqItems?
        refine wpAny_bind (wpAny_load (s := { s with heap := h', toks := tk + 1 }) ho' (wpAny_pure ?_))
        dsimp only [Option.getD]
        have fin : ∀ t' tk', wpAny (model prog w) A.in1 (if false = true then (do
            let v ← holding [.str (Txt.join Str.empty zs) t'] (do
              let i ← mkInt k
              newTuple [.str (Txt.join Str.empty zs) t', i])
            ret v) else ret (.str (Txt.join Str.empty zs) t')) (fun fin s' => match fin with | .done f => R (.ok f) s' | .again c' => c'.quiet = true ∧ codeAny (model prog w) A c' R s') (fun e s' => R (.error e) s') { s with heap := h', toks := tk' } := by
          intro t' tk'
          rw [if_neg (by decide)]
          exact wpAny_pure (hR t' h' tk' hk)
        by_cases hem : us.isEmpty = true
        · rw [if_pos hem]
          refine wpAny_pure ?_
          have hz0 : zs = [] := by
            have := Paired.len hpr'
            rw [Array.isEmpty_iff.mp hem] at this
            exact List.map_eq_nil_iff.mp (List.length_eq_zero_iff.mp this)
          rw [← hnil]
          have q := hR tk h' (tk + 1) hk
          rw [hz0] at q
          exact q
        · rw [if_neg hem]
          rw [← hnil]
          refine wpAny_bind ?_
          show wpAny _ A.in1 (call (.builtin "str.join") [.str Str.empty tk, .ref l]) _ _ _
          refine join_list (s := { s with heap := h', toks := tk + 1 }) (x := Str.empty) hpl'.isList (strs_are hpr') ?_ fun t' k => fin t' k
          show (zs.map (·.length)).sum + zs.length * Str.empty.length ≤ _
          have : Str.empty.length = 0 := rfl
          rw [this]
          omega
      rw [hp1] at last
      by_cases hlt : done < x.cps.size
      · rw [if_pos hlt] at last
        simp only [hlt, if_true]
        refine wpAny_bind (slice_ok hx (wpAny_bind (push_ok hpl (by omega) fun h' hpl' hsb => ?_)))
        refine last (ys ++ [⟨x.cps.extract done x.cps.size⟩]) _ h' _ hpl' ?_ (fun b o hb e => (hsb.2 b hb).trans e) rfl
        rw [Array.toList_push, List.map_append]
        exact Paired.snoc hpr ⟨_, rfl⟩
      · rw [if_neg hlt] at last
        simp only [hlt, if_false]
        exact last ys vs s.heap s.toks hpl hpr (fun _ _ _ e => e) (by simp)

theorem call_sub {p : Addr} {code : Array Nat} {x r : Str} {t u : Tok} {next : Nat → Option (Nat × Nat)} {N : Nat} {s : Shared} {Q : Value → Shared → Prop} (hx : x.length ≤ 1000000) (hN : N ≤ 2 ^ 60) (hr : r.cps.contains 92 = false)
    (hs : ∀ st must, st ≤ x.cps.size → EndsIn N (Sre.forSearch code x.cps 0 st x.cps.size must) (Got (next st))) (hnext : ∀ st b e, next st = some (b, e) → st ≤ b ∧ b < e ∧ e ≤ x.cps.size) (f : Nat)
    (hf : x.cps.size < f) (hf2 : 2 * f ≤ 100000) (hp : PatAt s.heap p code) (hsum : ((pieces x r next f 0).map (·.length)).sum ≤ 16777216)
    (h : ∀ t' h' tk, (∀ b o, s.heap.get? b = some o → h'.get? b = some o) → Q (.str (Txt.join Str.empty (pieces x r next f 0)) t') { s with heap := h', toks := tk }) :
    wpAny (model prog w) A (call (.builtin "re.Pattern.sub") [.ref p, .str r u, .str x t]) Q E s := by
  refine wpAny_call ?_
  have hT : s.TypeIs (.ref p) "re.Pattern" := by
    obtain ⟨o, fs, co, oc, items, k, h1, h2, h3⟩ := hp
    exact ⟨o, h1, h2⟩
  refine codeAny_call_builtin slot_rePattern_sub.plain entry_rePattern_sub (slot_rePattern_sub.check _ _ _ _ _ _ _ _ hT (args_rePattern_sub _ _ _) ?_)
  show wpAny _ A.in1 (Builtin.Re.reSubstitute "re.Pattern.sub" "sub" false _) _ _ s
  unfold Builtin.Re.reSubstitute
  show wpAny _ A.in1 (Builtin.Re.reNamed "re.Pattern.sub" "sub" ["repl", "string", "count"] 2 [.str r u, .str x t] [] >>= _) _ _ s
  have e1 : Builtin.Re.reNamed "re.Pattern.sub" "sub" ["repl", "string", "count"] 2 [.str r u, .str x t] [] = pure [some (.str r u), some (.str x t), none] := by kernel_rfl
  rw [e1]
  refine wpAny_bind (wpAny_pure ?_)
  refine wpAny_bind (wpAny_pure ?_)
  refine wpAny_bind (wpAny_specialOf (T := "str") (v := .str r u) rfl nolookup_str_call ?_)
  show wpAny _ A.in1 (asStr? (.str r u) >>= _) _ _ s
  refine wpAny_bind (wpAny_pure ?_)
  dsimp only
  refine wpAny_bind (wpAny_pure ?_)
  rw [hr]
  rw [if_neg (by decide), if_pos (by decide)]
  refine wpAny_bind (wpAny_pure ?_)
  dsimp only
  rw [if_neg (by decide)]
  show wpAny _ A.in1 (holding [.str r u] (Builtin.Re.reWholeTarget (.ref p) (.str x t)) >>= _) _ _ s
  refine wpAny_bind (wpAny_holding (whole_ok hp ?_))
  show wpAny _ A.in1 (newList [] >>= fun l => again (.builtin "re.Pattern.sub.loop" ⟨[.ref p, .str x t, .str r u, rawInt 0, rawInt 0, rawInt 0, rawInt 0, rawInt 0, .bool false, l, .bool false], []⟩)) _ _ s
  refine wpAny_bind (wpAny_newList ?_)
  refine wpAny_pure ⟨plainId_quiet plain_loop _, ?_⟩
  have hk : ∀ b o, s.heap.get? b = some o → (s.heap.push { cls := .type "list", data := .seq [].toArray }).get? b = some o := fun b o e => Heap.get?_push_of_some _ e
  refine loop_ok hx hN hs hnext f 0 0 false s.heap.objs.size [] _ _ hf (Nat.zero_le _) (hp.keeps hk) ⟨#[], ⟨0, Heap.get?_push_size _ rfl⟩, .nil⟩ (by simpa using hf2) (by simpa using hsum) fun t' h' tk k => ?_
  exact h t' h' tk fun b o e => k b o (Nat.ne_of_lt (Heap.lt_size e)) (hk b o e)
end
end Mine
end

section
open PySem PySem.W PyProof.Rows
set_option Elab.async false
set_option linter.unusedVariables false
set_option maxRecDepth 100000
set_option maxHeartbeats 0
namespace Mine
local macro_rules | `(tactic| kln_le) => `(tactic| first
  | refine we_name 0 rfl rfl (by decide) ?_ rfl rfl | refine we_name 1 rfl rfl (by decide) ?_ rfl rfl | refine we_name 2 rfl rfl (by decide) ?_ rfl rfl | refine we_name 3 rfl rfl (by decide) ?_ rfl rfl
  | refine we_name 4 rfl rfl (by decide) ?_ rfl rfl | refine we_name 5 rfl rfl (by decide) ?_ rfl rfl | refine we_name 6 rfl rfl (by decide) ?_ rfl rfl | refine we_name 7 rfl rfl (by decide) ?_ rfl rfl
  | refine we_name 8 rfl rfl (by decide) ?_ rfl rfl | refine we_name 9 rfl rfl (by decide) ?_ rfl rfl | refine we_name 10 rfl rfl (by decide) ?_ rfl rfl | refine we_name 11 rfl rfl (by decide) ?_ rfl rfl)

noncomputable abbrev nmSub : List (Str × NameKind) := [("ch_a", .local), ("ch_b", .local), ("_CASE_COST", .globalImplicit), ("_MOVE_COST", .globalImplicit)]
noncomputable def low1 (c : Nat) : Str := Txt.lower ⟨#[c]⟩
noncomputable def subCost (a b : Nat) : Int := if a = b then 0 else if low1 a = low1 b then 1 else 2

theorem str1_beq (a b : Nat) : ((⟨#[a]⟩ : Str) == ⟨#[b]⟩) = decide (a = b) := by
  by_cases h : a = b
  · subst h; simp
  · simp [h]
theorem low_len (x : Str) (h : x.length ≤ 1000) : (Txt.lower x).length ≤ sizeLine := by
  have := len_lower x
  rw [sizeLine_eq]
  omega
section
variable {prog : Program} {w : World} {n : Nat} {mg mb : Str → Option Value} {K : Shared} {env : Env} {nm : List (Str × NameKind)} {oc : Bool} {F : List (Option Value)} {H : List Ent}
theorem we_globI {x : Str} {pos : Pos} {i : Int} {Q : Value → List Ent → Prop} (j : Nat) (hx : nm[j]? = some (x, .globalImplicit)) (hv : ∃ t, mg x = some (.int i t)) (h : Q (I i) H) (hd : (x == ("__debug__" : Str)) = false) :
    WE prog w n mg mb K env nm oc (eval (.Name x pos) env) F H Q := by
  obtain ⟨t, hv⟩ := hv
  have := we_glob (prog := prog) (w := w) (n := n) (mb := mb) (K := K) (env := env) (oc := oc) (F := F) (H := H) (pos := pos) (Q := fun a H' => a = .int i t ∧ H' = H) j hx hv ⟨rfl, rfl⟩ hd
  exact WX.mono this fun v F' H' z00 => z00.elim fun e z00 => z00.elim fun a z00 => z00.elim fun hm z00 => z00.elim fun e1 e2 => by
    subst e1 e2
    obtain ⟨u, rfl⟩ := hm
    exact ⟨e, _, Vm.int, h⟩
theorem we_globS {x : Str} {pos : Pos} {y : Str} {Q : Value → List Ent → Prop} (j : Nat) (hx : nm[j]? = some (x, .globalImplicit)) (hv : ∃ t, mg x = some (.str y t)) (h : Q (S y) H) (hd : (x == ("__debug__" : Str)) = false) :
    WE prog w n mg mb K env nm oc (eval (.Name x pos) env) F H Q := by
  obtain ⟨t, hv⟩ := hv
  have := we_glob (prog := prog) (w := w) (n := n) (mb := mb) (K := K) (env := env) (oc := oc) (F := F) (H := H) (pos := pos) (Q := fun a H' => a = .str y t ∧ H' = H) j hx hv ⟨rfl, rfl⟩ hd
  exact WX.mono this fun v F' H' z00 => z00.elim fun e z00 => z00.elim fun a z00 => z00.elim fun hm z00 => z00.elim fun e1 e2 => by
    subst e1 e2
    obtain ⟨u, rfl⟩ := hm
    exact ⟨e, _, Vm.str, h⟩
/-- text.lower() -/
theorem we_lower0 {o : Expr} {apos pos : Pos} {Q : Value → List Ent → Prop}
    (hbase : attributeBase o "lower" env (eval o env) = eval o env)
    (hfew : ((backTo pos (starEach [] env)).all (fun x => !x.1) && (backToKw pos (keywordEach [] env)).all (fun x => x.1.isSome)
      && decide (([] : List Expr).length + ([] : List Keyword).length + (if ([] : List Keyword).isEmpty then 0 else 1) < 30)) = true)
    (hline : (apos.endLine == pos.line) = true)
    (h : WE prog w n mg mb K env nm oc (eval o env) F H fun a H₁ => ∃ x t, a = .str x t ∧ (Txt.lower x).length ≤ sizeLine ∧ Q (S (Txt.lower x)) H₁) :
    WE prog w n mg mb K env nm oc (eval (.Call (.Attribute o "lower" apos) [] [] pos) env) F H Q := by
  refine we_Method hbase hfew hline PySem.F.plainAttrs_str PySem.F.slot_str_lower PySem.F.type_str_lower (h.mono fun a H₁ z00 => z00.elim fun x z00 => z00.elim fun t z00 => z00.elim fun e z00 => z00.elim fun hl q => ⟨fun P s st v hv => ?_, fun v hv => ?_⟩)
  · subst e
    obtain ⟨u, rfl⟩ := hv
    exact ⟨rfl, fun b e => nomatch e⟩
  · subst e
    exact we_with0 rfl (we_lower hv hl q)
end
theorem fx_sub {w : World} {mg mb : Str → Option Value} {s : Shared} {a b : Nat} {n : Nat} (gb : GB mg mb s.heap) (hg : s.gens = #[]) (hf : FnAtX s.heap 38 "_substitution_cost" (fnP 5) (fnB 5) (fnS 5))
    (h1 : ∃ t, mg "_CASE_COST" = some (.int 1 t)) (h2 : ∃ t, mg "_MOVE_COST" = some (.int 2 t)) : FX pw w (n + 4) 38 [S ⟨#[a]⟩, S ⟨#[b]⟩] s fun v H => H = [] ∧ v = I (subCost a b) := by
  refine fx_body (nm := nmSub) (ps := ["ch_a", "ch_b"]) (par := [some 0, some 1, none, none]) hf gb hg rfl rfl rfl rfl (by decide) (fun pm cd doc vs hv => ?_) rfl (by decide) (by decide) fun env => ?_
  · obtain ⟨x, y, rfl⟩ := len2 hv
    kernel_rfl
  refine ws_cons (ws_If (wt_Compare ?_ rfl))
  kln_le
  kln_le
  refine wc_eqs ⟨_, rfl, ?_⟩
  rw [str1_beq]
  unfold subCost
  by_cases hab : a = b
  · rw [if_pos hab, decide_eq_true hab]
    exact ws_cons (ws_Return (we_int ⟨rfl, rfl⟩))
  · rw [if_neg hab, decide_eq_false hab]
    refine ws_nil ?_
    refine ws_cons (ws_If (wt_Compare ?_ rfl))
    refine we_lower0 rfl rfl rfl ?_
    kln_le
    refine ⟨_, _, rfl, low_len _ (by show 1 ≤ 1000; decide), ?_⟩
    refine we_lower0 rfl rfl rfl ?_
    kln_le
    refine ⟨_, _, rfl, low_len _ (by show 1 ≤ 1000; decide), ?_⟩
    refine wc_eqs ⟨_, rfl, ?_⟩
    by_cases hl : low1 a = low1 b
    · rw [if_pos hl, show (Txt.lower ⟨#[a]⟩ == Txt.lower ⟨#[b]⟩) = true from beq_iff_eq.mpr hl]
      refine ws_cons (ws_Return ?_)
      exact we_globI 2 rfl h1 ⟨rfl, rfl⟩ rfl
    · rw [if_neg hl, show (Txt.lower ⟨#[a]⟩ == Txt.lower ⟨#[b]⟩) = false from beq_eq_false_iff_ne.mpr hl]
      refine ws_nil (ws_cons (ws_Return ?_))
      exact we_globI 3 rfl h2 ⟨rfl, rfl⟩ rfl
end Mine
end

section
open PySem PySem.W PyProof.Rows
set_option Elab.async false
set_option linter.unusedVariables false
namespace Mine
/-- all that the first list knows the second knows -/
noncomputable def SubL : List (Option Value) → List (Option Value) → Prop
  | [], _ => True
  | none :: x, _ :: y => SubL x y
  | some a :: x, some b :: y => a = b ∧ SubL x y
  | some _ :: _, none :: _ => False
  | _ :: _, [] => False
theorem SubL.get : ∀ {x y : List (Option Value)}, SubL x y → ∀ (i : Nat) (a : Value), x[i]? = some (some a) → y[i]? = some (some a)
  | [], _, _, i, a, h => by simp at h
  | none :: x, _ :: y, s, 0, a, h => by simp at h
  | none :: x, _ :: y, s, i + 1, a, h => by simpa using SubL.get (x := x) (y := y) s i a (by simpa using h)
  | some b :: x, some c :: y, s, 0, a, h => by
    simp at h
    obtain ⟨rfl, _⟩ := s
    subst h
    simp
  | some b :: x, some c :: y, s, i + 1, a, h => by simpa using SubL.get (x := x) (y := y) s.2 i a (by simpa using h)
  | some _ :: _, none :: _, s, _, _, _ => s.elim
  | none :: _, [], s, _, _, _ => s.elim
  | some _ :: _, [], s, _, _, _ => s.elim
theorem SubL.refl : ∀ x : List (Option Value), SubL x x
  | [] => trivial
  | none :: x => SubL.refl x
  | some a :: x => ⟨rfl, SubL.refl x⟩
section
variable {α β : Type} {prog : Program} {w : World} {n : Nat} {mg mb : Str → Option Value} {K : Shared} {env : Env} {nm : List (Str × NameKind)} {oc : Bool} {F : List (Option Value)} {H : List Ent}
theorem WX.weaken {m : Sem α} {Q Q' : α → List (Option Value) → List Ent → Prop} (h : WX prog w n mg mb K env nm oc m F H Q) (q : ∀ r F' H', Q r F' H' → ∃ F'' H'', SubL F'' F' ∧ H''.Sublist H' ∧ Q' r F'' H'') : WX prog w n mg mb K env nm oc m F H Q' :=
  fun A hA P s E R st hR => h A hA P s E R st fun r F' H' s' st' x => by
    obtain ⟨F'', H'', h1, h2, h3⟩ := q r F' H' x
    exact hR r F'' H'' s' ((st'.less h1.get).drop h2) h3
theorem WX.forget {m : Sem α} {Q : α → List (Option Value) → List Ent → Prop} {F' : List (Option Value)} (h : WX prog w n mg mb K env nm oc m F' H Q) (s : SubL F' F) : WX prog w n mg mb K env nm oc m F H Q :=
  fun A hA P s₀ E R st hR => h A hA P s₀ E R (st.less s.get) hR
theorem WS.at' {m : Sem Flow} {Q : Flow → List (Option Value) → List Ent → Prop} {F' : List (Option Value)} (s : SubL F' F) (h : WS prog w n mg mb K env nm oc m F' H Q) : WS prog w n mg mb K env nm oc m F H Q := WX.forget h s

/-- all lists fall out of view at the end -/
theorem WS.clear {m : Sem Flow} {Q : Flow → List (Option Value) → List Ent → Prop} (h : WS prog w n mg mb K env nm oc m F H fun fl F' _ => Q fl F' []) : WS prog w n mg mb K env nm oc m F H Q :=
  WX.weaken h fun r F' H' ⟨a, ha, q⟩ => ⟨F', [], SubL.refl _, List.nil_sublist _, a, ha, q⟩
/-- a for, by a shape of the frame -/
theorem ws_ForX {X : Type} {target iter : Expr} {body : List Stmt} {pos : Pos} {xs : List Value} {Q : Flow → List (Option Value) → List Ent → Prop} (shape : Nat → X → List (Option Value)) (P : Nat → X → List Ent → Prop) (x0 : X)
    (hs : ∀ x, foldedSetIterable iter env x = pure x) (ht : ∀ it v, letOwnedTupleGo target it v = pure ()) (h0 : SubL (shape 0 x0) F)
    (start : WI prog w n mg mb K env nm oc (eval iter env) (shape 0 x0) H xs fun H' _ => P 0 x0 H')
    (turn : ∀ i x H₁ a, P i x H₁ → xs[i]? = some a → WN prog w n mg mb K env nm oc (assign target env) a (shape i x) H₁ fun F₂ H₂ => WS prog w n mg mb K env nm oc (execs body env) F₂ H₂ fun fl F₃ H₃ => match fl with
      | .next | .cont => ∃ x' H', SubL (shape (i + 1) x') F₃ ∧ H'.Sublist H₃ ∧ P (i + 1) x' H'
      | .brk => Q .next F₃ H₃
      | .ret v => Q (.ret v) F₃ H₃)
    (fin : ∀ x H₁, P xs.length x H₁ → Q .next (shape xs.length x) H₁) : WS prog w n mg mb K env nm oc (exec (.For target iter body [] pos) env) F H Q := by
  refine WX.forget (ws_For (fun i F₁ H₁ => ∃ x, F₁ = shape i x ∧ P i x H₁) hs ht ?_ (fun i F₁ H₁ a ⟨x, e, p⟩ ha => ?_) fun F₁ H₁ ⟨x, e, p⟩ => e ▸ fin x H₁ p) h0
  · intro A hA P' s E R st hR
    exact start A hA P' s E R st fun it H' B s' I fp wr Pv Sv a b c d q => hR it H' B s' I fp wr Pv Sv a b c d ⟨x0, rfl, q⟩
  · subst e
    intro v hv
    refine WX.mono (turn i x H₁ a p ha v hv) fun _ F₂ H₂ q => ?_
    refine WX.weaken q fun fl F₃ H₃ ⟨a', hf, q'⟩ => ?_
    cases a' with
    | next => obtain ⟨x', H', s1, s2, p'⟩ := q'; exact ⟨_, H', s1, s2, .next, hf, x', rfl, p'⟩
    | cont => obtain ⟨x', H', s1, s2, p'⟩ := q'; exact ⟨_, H', s1, s2, .cont, hf, x', rfl, p'⟩
    | brk => exact ⟨F₃, H₃, SubL.refl _, List.Sublist.refl _, .brk, hf, q'⟩
    | ret v => exact ⟨F₃, H₃, SubL.refl _, List.Sublist.refl _, .ret v, hf, q'⟩

/-- a while, by a shape of the frame -/
theorem ws_WhileX {X : Type} {test : Expr} {body : List Stmt} {pos : Pos} {Q : Flow → List (Option Value) → List Ent → Prop} (shape : X → List (Option Value)) (P : X → List Ent → Prop) (meas : X → Nat) (x0 : X)
    (h0 : SubL (shape x0) F) (hp : P x0 H)
    (turn : ∀ x H₁, P x H₁ → WT prog w n mg mb K env nm oc (isTrue test env (eval test env)) (shape x) H₁ fun b H₂ =>
      if b then WS prog w n mg mb K env nm oc (execs body env) (shape x) H₂ fun fl F₃ H₃ => match fl with
        | .next | .cont => ∃ x' H', meas x' < meas x ∧ SubL (shape x') F₃ ∧ H'.Sublist H₃ ∧ P x' H'
        | .brk => Q .next F₃ H₃
        | .ret v => Q (.ret v) F₃ H₃
      else Q .next (shape x) H₂) : WS prog w n mg mb K env nm oc (exec (.While test body [] pos) env) F H Q := by
  refine WX.forget (ws_While (fun k F₁ H₁ => ∃ x, k = meas x ∧ F₁ = shape x ∧ P x H₁) (fun k F₁ H₁ ⟨x, e1, e2, p⟩ => ?_) (meas x0) ⟨x0, rfl, rfl, hp⟩) h0
  subst e1 e2
  refine WX.mono (turn x H₁ p) fun b F₂ H₂ ⟨e, q⟩ => ⟨e, ?_⟩
  cases b with
  | false => exact q
  | true =>
    simp only [if_true] at q ⊢
    refine WX.weaken q fun fl F₃ H₃ ⟨a', hf, q'⟩ => ?_
    cases a' with
    | next => obtain ⟨x', H', s0, s1, s2, p'⟩ := q'; exact ⟨_, H', s1, s2, .next, hf, meas x', s0, x', rfl, rfl, p'⟩
    | cont => obtain ⟨x', H', s0, s1, s2, p'⟩ := q'; exact ⟨_, H', s1, s2, .cont, hf, meas x', s0, x', rfl, rfl, p'⟩
    | brk => exact ⟨F₃, H₃, SubL.refl _, List.Sublist.refl _, .brk, hf, q'⟩
    | ret v => exact ⟨F₃, H₃, SubL.refl _, List.Sublist.refl _, .ret v, hf, q'⟩

theorem ws_WhileD {X : Type} {test : Expr} {body : List Stmt} {pos : Pos} {Q : Flow → List (Option Value) → List Ent → Prop} (shape : X → List (Option Value)) (P : X → List Ent → Prop) (meas : X → Nat) (Done : X → List Ent → Prop) (x0 : X)
    (h0 : SubL (shape x0) F) (hp : P x0 H)
    (turn : ∀ x H₁, P x H₁ → WT prog w n mg mb K env nm oc (isTrue test env (eval test env)) (shape x) H₁ fun b H₂ =>
      if b then WS prog w n mg mb K env nm oc (execs body env) (shape x) H₂ fun fl F₃ H₃ => match fl with
        | .next | .cont => ∃ x' H', meas x' < meas x ∧ SubL (shape x') F₃ ∧ H'.Sublist H₃ ∧ P x' H'
        | .brk => Q .next F₃ H₃
        | .ret v => Q (.ret v) F₃ H₃
      else Done x H₂)
    (fin : ∀ x H₁, Done x H₁ → Q .next (shape x) H₁) : WS prog w n mg mb K env nm oc (exec (.While test body [] pos) env) F H Q :=
  ws_WhileX shape P meas x0 h0 hp fun x H₁ p => WX.mono (turn x H₁ p) fun b F₂ H₂ ⟨e, q⟩ => ⟨e, by
    cases b with
    | true => exact q
    | false => exact fin x H₂ q⟩

theorem wb_isub {i j : Int} {t u : Tok} {Q : Value → List Ent → Prop} (h : Q (I (i - j)) H) : WB prog w n mg mb K env nm oc (inplaceOp .Sub) (.int i t) (.int j u) F H Q := by
  rintro _ _ ⟨t, rfl⟩ ⟨u, rfl⟩ A hA P s E R st hR
  exact PySem.AutoIntOps.isub_0 (hR _ _ _ _ (st.tok _) ⟨rfl, _, Vm.int, h⟩)
/-- a call of a built-in function of one argument -/
theorem we_call1 {x : Str} {p pos : Pos} {e : Expr} {id : String} {Q : Value → List Ent → Prop} (j : Nat) (hx : nm[j]? = some (x, .globalImplicit)) (hm : mg x = none) (hb : mb x = some (.builtin id)) (hd : (x == ("__debug__" : Str)) = false)
    (he : starEach [e] env = (false, eval e env) :: starEach [] env)
    (h : WE prog w n mg mb K env nm oc (eval e env) F H fun a H₁ => WC prog w n mg mb K env nm oc (.builtin id) [a] F H₁ Q) : WE prog w n mg mb K env nm oc (eval (.Call (.Name x p) [e] [] pos) env) F H Q := by
  refine we_Call (we_blt j hx hm hb (fun f' hf => ?_) hd)
  cases hf
  exact we_with rfl he rfl (wl_cons he (h.mono fun a H₁ q => wl_nil fun vs hv => q vs hv))
theorem we_call2 {x : Str} {p pos : Pos} {e e' : Expr} {id : String} {Q : Value → List Ent → Prop} (j : Nat) (hx : nm[j]? = some (x, .globalImplicit)) (hm : mg x = none) (hb : mb x = some (.builtin id)) (hd : (x == ("__debug__" : Str)) = false)
    (he : starEach [e, e'] env = (false, eval e env) :: starEach [e'] env) (he' : starEach [e'] env = (false, eval e' env) :: starEach [] env)
    (h : WE prog w n mg mb K env nm oc (eval e env) F H fun a H₁ => WE prog w n mg mb K env nm oc (eval e' env) F H₁ fun b H₂ => WC prog w n mg mb K env nm oc (.builtin id) [a, b] F H₂ Q) : WE prog w n mg mb K env nm oc (eval (.Call (.Name x p) [e, e'] [] pos) env) F H Q := by
  refine we_Call (we_blt j hx hm hb (fun f' hf => ?_) hd)
  cases hf
  exact we_with rfl he (by rw [he']; rfl) (wl_cons he (h.mono fun a H₁ q => wl_cons he' (q.mono fun b H₂ q => wl_nil fun vs hv => q vs hv)))
theorem WT.mono {m : Sem Bool} {Q Q' : Bool → List Ent → Prop} (h : WT prog w n mg mb K env nm oc m F H Q) (q : ∀ a H', Q a H' → Q' a H') : WT prog w n mg mb K env nm oc m F H Q' :=
  WX.mono h fun r F' H' ⟨e, x⟩ => ⟨e, q r H' x⟩
/-- a test that tells a truth, and leaves the lists -/
theorem ws_IfD {test : Expr} {body orelse : List Stmt} {pos : Pos} {Q : Flow → List (Option Value) → List Ent → Prop} (p : Prop) [Decidable p]
    (h : WT prog w n mg mb K env nm oc (isTrue test env (eval test env)) F H fun b H₁ => b = decide p ∧ H₁ = H)
    (ht : p → WS prog w n mg mb K env nm oc (execs body env) F H Q) (hf : ¬ p → WS prog w n mg mb K env nm oc (execs orelse env) F H Q) : WS prog w n mg mb K env nm oc (exec (.If test body orelse pos) env) F H Q := by
  refine ws_If (h.mono fun b H₁ ⟨e, e2⟩ => ?_)
  subst e e2
  by_cases hp : p
  · rw [decide_eq_true hp]; exact ht hp
  · rw [decide_eq_false hp]; exact hf hp
/-- a, b = e1, e2 of two locals on a line: the stores go from the last to the first -/
theorem ws_Swap2 {x y : Str} {px py tp : Pos} {k k' : Nat} {e₁ e₂ : Expr} {vp pos : Pos} {Q : Flow → List (Option Value) → List Ent → Prop}
    (hs : swapsWithSole [.Tuple [.Name x px, .Name y py] k tp] (.Tuple [e₁, e₂] k' vp) pos.line env = pure false) (hw : ∀ P s, St mg mb K P env nm oc F H s → swappedStores [.Tuple [.Name x px, .Name y py] k tp] (.Tuple [e₁, e₂] k' vp) env = pure (some [x, y]))
    (he1 : starEach [e₁, e₂] env = (false, eval e₁ env) :: starEach [e₂] env) (he2 : starEach [e₂] env = (false, eval e₂ env) :: starEach [] env)
    (h : WE prog w n mg mb K env nm oc (eval e₁ env) F H fun a H₁ => WE prog w n mg mb K env nm oc (eval e₂ env) F H₁ fun b H₂ => WN prog w n mg mb K env nm oc (storeName env y) b F H₂ fun F₃ H₃ => WN prog w n mg mb K env nm oc (storeName env x) a F₃ H₃ fun F' H' => Q .next F' H') :
    WS prog w n mg mb K env nm oc (exec (.Assign [.Tuple [.Name x px, .Name y py] k tp] (.Tuple [e₁, e₂] k' vp) pos) env) F H Q := by
  intro A hA P s E R st hR
  refine Assign_Tuple_swapped (wpAny_Tuple (wpAny_items_cons (h A hA P s E _ st fun v F' H' s₁ st₁ ⟨e1, a, ha, q⟩ => ?_) he1)) hs (hw := hw P s st)
  subst e1
  refine wpAny_items_cons (q A hA P s₁ E _ st₁ fun v₂ F' H' s₂ st₂ ⟨e1, b, hb, q₂⟩ => wpAny_items_nil ⟨by show 2 ≤ sizeLine; rw [sizeLine_eq]; decide, ?_⟩) he2
  subst e1
  generalize ho1 : ({ cls := .type "tuple", data := .seq [v, v₂].toArray } : Obj) = o1
  refine unpackItems_tuple (s := { s₂ with heap := s₂.heap.push o1 }) hA.1 (items := #[v, v₂]) ⟨o1, Heap.get?_push_size _ (by subst ho1; rfl), by subst ho1; rfl, 0, by subst ho1; rfl⟩ fun h' hx => ?_
  have hk : ∀ b o, s₂.heap.get? b = some o → h'.get? b = some o := fun b o e => hx b o (by show b ≠ (s₂.heap.push o1).objs.size; rw [Heap.size_push]; exact Nat.ne_of_lt (Nat.lt_succ_of_lt (Heap.lt_size e))) (Heap.get?_push_of_some _ e)
  have st₃ := st₂.kept (s' := { s₂ with heap := h' }) hk st₂.gens rfl
  show wpAny _ A (do holding [v] (bindName env y v₂); do holding [] (bindName env x v); pure ()) _ _ _
  refine wpAny_bind (wpAny_holding (bindName_ (q₂ v₂ hb A hA P _ _ _ st₃ fun _ F₄ H₄ s₄ st₄ q₄ => ?_)))
  refine wpAny_bind (wpAny_holding (bindName_ (q₄ v ha A hA P _ _ _ st₄ fun _ F₅ H₅ s₅ st₅ q₅ => wpAny_pure ?_)))
  exact hR _ _ _ _ st₅ ⟨.next, rfl, q₅⟩
theorem swap_names {x y u v : Str} {px py pu pv tp vp : Pos} {k k' : Nat} (h1 : env.kindOf x = some .local) (h2 : env.kindOf y = some .local) (h3 : env.scope.kind = .function) (hxy : ([x, y].eraseDups.length == 2) = true) (hl : (py.line == px.line) = true) (hu : (u == ("__debug__" : Str)) = false) :
    swappedStores [.Tuple [.Name x px, .Name y py] k tp] (.Tuple [.Name u pu, .Name v pv] k' vp) env = pure (some [x, y]) := by
  have k3 : env.blockKind = .function := by unfold Env.blockKind; rw [h3]; rfl
  have hl' : py.line = px.line := beq_iff_eq.mp hl
  have e1 : foldedForSure 8 (.Name u pu) = false := rfl
  have e2 : constantsAlone 8 (.Name u pu) = false := hu
  have hxy' := beq_iff_eq.mp hxy
  have p1 : (Expr.Name x px).pos = px := rfl
  have p2 : (Expr.Name y py).pos = py := rfl
  delta swappedStores
  dsimp only [List.filterMap, List.any, List.all, List.head?, Option.map, Option.getD]
  simp [k3, h1, h2, hl', e1, e2, p1]
  exact fun h => absurd hxy' h
theorem wtr_str {x : Str} {t : Tok} {Q : Bool → List Ent → Prop} (hx : x.length ≤ sizeLine) (h : Q ((x.length : Int) != 0) H) : WTr prog w n mg mb K env nm oc (.str x t) F H Q := by
  rintro _ ⟨u, rfl⟩ A hA P s E R st hR
  exact PySem.P.truthy_str (by rw [sizeLine_eq] at hx; omega) (hR _ _ _ _ (st.tok _) ⟨rfl, h⟩)
end
end Mine
end

section
open PySem PySem.W PyProof.Rows
set_option Elab.async false
set_option linter.unusedVariables false
namespace Mine
/-- the text of a list of signs -/
noncomputable abbrev mk (l : List Nat) : Str := ⟨l.toArray⟩
theorem mk_length (l : List Nat) : (mk l).length = l.length := by show l.toArray.size = _; simp
theorem mk_toList (l : List Nat) : (mk l).cps.toList = l := by simp
theorem mk_beq (a b : List Nat) : (mk a == mk b) = decide (a = b) := by
  by_cases h : a = b
  · subst h; simp
  · simp [h]
theorem slice_from (l : List Nat) (p : Nat) (h : p ≤ l.length) : Txt.slice (mk l) (some (p : Int)) none = mk (l.drop p) := by
  have := slice_closes_from (x := mk l) (i := p) ⟨by omega, by simpa using h⟩
  rw [beq_iff_eq] at this
  rw [this]
  simp only [mk_toList, Int.toNat_natCast]
  congr 2
  rw [List.take_of_length_le]
  rw [List.length_drop]
  omega
theorem slice_all (x : Str) : Txt.slice x none none = x := by
  have e : Txt.slice x none none = Txt.slice x (some 0) none := by rfl
  rw [e, show (0 : Int) = ((0 : Nat) : Int) from rfl]
  have := slice_from x.cps.toList 0 (Nat.zero_le _)
  simpa [mk] using this
theorem slice_end (l : List Nat) (q : Nat) (h0 : 0 < q) (h : q ≤ l.length) : Txt.slice (mk l) none (some (-(q : Int))) = mk (l.take (l.length - q)) := by
  have e : (mk l).length = l.length := mk_length l
  have := slice_closes_to_neg (x := mk l) (j := -(q : Int)) (k := -(q : Int) + l.length) (by omega) (by rw [e]; omega) (by rw [e])
  rw [beq_iff_eq] at this
  rw [this]
  simp only [mk_toList]
  congr 2
  simp
  congr 1
  omega
/-- the common head put off -/
noncomputable def strip : List Nat → List Nat → List Nat × List Nat
  | a :: x, b :: y => if a = b then strip x y else (a :: x, b :: y)
  | x, y => (x, y)
/-- one row of the table -/
noncomputable def inner (cost : Nat → Nat → Int) (b : Nat) : List Nat → List Int → Int → Int → Int → List Int × Int × Int
  | c :: cs, r :: rs, dist, res, mn =>
    let x := min (min res r + 2) (dist + cost b c)
    let o := inner cost b cs rs r x (min x mn)
    (x :: o.1, o.2)
  | _, rs, _, res, mn => (rs, res, mn)
noncomputable def outer (cost : Nat → Nat → Int) (mc : Int) (a : List Nat) : List Nat → Nat → List Int → Int → Int
  | b :: bs, k, row, _ =>
    let o := inner cost b a row (2 * k) (2 * k) 9223372036854775807
    if mc < o.2.2 then mc + 1 else outer cost mc a bs (k + 1) o.1 o.2.1
  | [], _, _, res => res
noncomputable def rowOf (n : Nat) : List Int := (List.range n).map fun (i : Nat) => (2 * (i + 1) : Int)
noncomputable def levT (cost : Nat → Nat → Int) (mc : Int) (a b : List Nat) : Int :=
  if a = [] ∨ b = [] then 2 * (a.length + b.length)
  else if 40 < a.length ∨ 40 < b.length then mc + 1
  else
    let p := if b.length < a.length then (b, a) else (a, b)
    if mc < (p.2.length - p.1.length : Int) * 2 then mc + 1 else outer cost mc p.1 p.2 0 (rowOf p.1.length) 0
/-- the distance, as _levenshtein_distance makes it -/
noncomputable def lev (cost : Nat → Nat → Int) (mc : Int) (a b : List Nat) : Int :=
  if a = b then 0 else
    let p := strip a b
    let q := strip p.1.reverse p.2.reverse
    levT cost mc q.1.reverse q.2.reverse
end Mine
end

section
open PySem PySem.W PyProof.Rows
set_option Elab.async false
set_option linter.unusedVariables false
set_option maxRecDepth 100000
set_option maxHeartbeats 0
namespace Mine
local macro_rules | `(tactic| kln_le) => `(tactic| first
  | refine we_name 0 rfl rfl (by decide) ?_ rfl rfl | refine we_name 1 rfl rfl (by decide) ?_ rfl rfl | refine we_name 2 rfl rfl (by decide) ?_ rfl rfl | refine we_name 3 rfl rfl (by decide) ?_ rfl rfl
  | refine we_name 4 rfl rfl (by decide) ?_ rfl rfl | refine we_name 5 rfl rfl (by decide) ?_ rfl rfl | refine we_name 6 rfl rfl (by decide) ?_ rfl rfl | refine we_name 7 rfl rfl (by decide) ?_ rfl rfl
  | refine we_name 8 rfl rfl (by decide) ?_ rfl rfl | refine we_name 9 rfl rfl (by decide) ?_ rfl rfl | refine we_name 10 rfl rfl (by decide) ?_ rfl rfl | refine we_name 11 rfl rfl (by decide) ?_ rfl rfl
  | refine we_name 12 rfl rfl (by decide) ?_ rfl rfl | refine we_name 13 rfl rfl (by decide) ?_ rfl rfl)

noncomputable abbrev nmLev : List (Str × NameKind) := [("a", .local), ("b", .local), ("max_cost", .local), ("pre", .local), ("post", .local), ("row", .local), ("result", .local), ("bindex", .local), ("bchar", .local), ("distance", .local),
  ("minimum", .local), ("index", .local), ("substitute", .local), ("insert_delete", .local), ("_MOVE_COST", .globalImplicit), ("len", .globalImplicit), ("_MAX_STRING_SIZE", .globalImplicit), ("list", .globalImplicit), ("range", .globalImplicit), ("_substitution_cost", .globalImplicit), ("min", .globalImplicit)]
noncomputable abbrev u11 : List (Option Value) := [none, none, none, none, none, none, none, none, none, none, none, none, none, none, none, none, none]

/-- what the names of the module and the built-in ones mean -/
structure Names (mg mb : Str → Option Value) : Prop where
  cc : ∃ t, mg "_CASE_COST" = some (.int 1 t)
  mc : ∃ t, mg "_MOVE_COST" = some (.int 2 t)
  ms : ∃ t, mg "_MAX_STRING_SIZE" = some (.int 40 t)
  sub : mg "_substitution_cost" = some (.ref 38)
  nlen : mg "len" = none
  nlist : mg "list" = none
  nrange : mg "range" = none
  nmin : mg "min" = none
  len : mb "len" = some (.builtin "len")
  list : mb "list" = some (.type "list")
  range : mb "range" = some (.type "range")
  min : mb "min" = some (.builtin "min")

theorem mk_small {l : List Nat} (h : l.length ≤ 200) : (mk l).length ≤ sizeLine := by rw [mk_length, sizeLine_eq]; omega
theorem take_le {l : List Nat} {q : Nat} (h : l.length ≤ 200) : (l.take q).length ≤ 200 := by rw [List.length_take]; omega
section
variable {prog : Program} {w : World} {n : Nat} {mg mb : Str → Option Value} {K : Shared} {env : Env} {nm : List (Str × NameKind)} {oc : Bool} {F : List (Option Value)} {H : List Ent}
theorem we_sliceFrom {x y : Str} {pa pb p pos : Pos} {A : List Nat} {k : Nat} {Q : Value → List Ent → Prop} (hk : k ≤ A.length) (hA : A.length ≤ 200)
    (h : WE prog w n mg mb K env nm oc (eval (.Name x pa) env) F H fun a H₁ => a = S (mk A) ∧ WE prog w n mg mb K env nm oc (eval (.Name y pb) env) F H₁ fun b H₂ => b = I (k : Nat) ∧ Q (S (mk (A.drop k))) H₂) :
    WE prog w n mg mb K env nm oc (eval (.Subscript (.Name x pa) (.Slice (some (.Name y pb)) none none p) pos) env) F H Q := by
  refine we_SliceStr (x := mk A) (t := 0) (lo := some (k : Int)) (hi := none) (mk_small hA) (fun _ _ => rfl) (fun _ _ => rfl) (h.mono fun a H₁ z00 => z00.elim fun e q => ⟨e, wp_some (q.mono fun b H₂ z00 => z00.elim fun e q => ⟨by rw [e]; rfl, wp_none ⟨trivial, ?_⟩⟩)⟩)
  rw [slice_from A k hk]
  exact q
theorem we_sliceTo {x y : Str} {pa pb p p1 p2 pos : Pos} {A : List Nat} {c : Nat} {k : Nat} {Q : Value → List Ent → Prop} (hk : k ≤ A.length) (hA : A.length ≤ 200)
    (h : WE prog w n mg mb K env nm oc (eval (.Name x pa) env) F H fun a H₁ => a = S (mk A) ∧ WE prog w n mg mb K env nm oc (eval (.Name y pb) env) F H₁ fun b H₂ => b = I (-(k : Nat)) ∧ Q (S (mk (A.take (A.length - k)))) H₂) :
    WE prog w n mg mb K env nm oc (eval (.Subscript (.Name x pa) (.Slice none (some (.BoolOp .Or [.Name y pb, .Constant .none c p1] p2)) none p) pos) env) F H Q := by
  by_cases h0 : k = 0
  · subst h0
    refine we_SliceStr (x := mk A) (t := 0) (lo := none) (hi := none) (mk_small hA) (fun _ _ => rfl) (fun _ _ => rfl) (h.mono fun a H₁ z00 => z00.elim fun e q => ⟨e, wp_none ⟨trivial, wp_some (we_Or2 (q.mono fun b H₂ z00 => z00.elim fun e q => ?_))⟩⟩)
    subst e
    refine wtr_int ?_
    refine we_none ⟨trivial, ?_⟩
    rw [slice_all]
    rw [show A.length - 0 = A.length from rfl, List.take_length] at q
    exact q
  · refine we_SliceStr (x := mk A) (t := 0) (lo := none) (hi := some (-(k : Int))) (mk_small hA) (fun _ _ => rfl) (fun _ _ => rfl) (h.mono fun a H₁ z00 => z00.elim fun e q => ⟨e, wp_none ⟨trivial, wp_some (we_Or2 (q.mono fun b H₂ z00 => z00.elim fun e q => ?_))⟩⟩)
    subst e
    refine wtr_int ?_
    rw [show (-(k : Int) != 0) = true from bne_iff_ne.mpr (by omega)]
    refine ⟨rfl, ?_⟩
    rw [slice_end A k (by omega) hk]
    exact q
theorem index_nat {l : List Nat} {p : Nat} (h : p < l.length) : (seqIndex? (p : Int) l.length).bind ((mk l).cps[·]?) = some l[p] := by
  unfold seqIndex?
  have h0 : ¬ ((p : Int) < 0) := by omega
  simp only [h0, if_false]
  rw [if_pos (by simp; omega)]
  simp [h]
theorem index_neg {l : List Nat} {q : Nat} (h : q < l.length) : (seqIndex? (-(q : Int) - 1) l.length).bind ((mk l).cps[·]?) = some (l[l.length - 1 - q]'(by omega)) := by
  unfold seqIndex?
  have h0 : (-(q : Int) - 1 < 0) := by omega
  simp only [h0, if_true]
  rw [if_pos (by simp; omega)]
  have e : (-(q : Int) - 1 + l.length).toNat = l.length - 1 - q := by omega
  rw [e]
  simp
/-- the truth of a text -/
theorem wtr_mk {l : List Nat} {Q : Bool → List Ent → Prop} (hl : l.length ≤ 200) (h : Q (!l.isEmpty) H) : WTr prog w n mg mb K env nm oc (S (mk l)) F H Q := by
  refine wtr_str (mk_small hl) ?_
  rw [mk_length]
  cases l with
  | nil => exact h
  | cons a r =>
    have : (((a :: r).length : Int) != 0) = true := bne_iff_ne.mpr (by simp only [List.length_cons]; omega)
    rw [this]
    exact h
end
theorem fx_lev {w : World} {mg mb : Str → Option Value} {s : Shared} {A B : List Nat} {mc : Int} {n : Nat} (gb : GB mg mb s.heap) (hg : s.gens = #[]) (hf : FnAtX s.heap 45 "_levenshtein_distance" (fnP 6) (fnB 6) (fnS 6))
    (hs : FnAtX s.heap 38 "_substitution_cost" (fnP 5) (fnB 5) (fnS 5)) (N : Names mg mb) (hA : A.length ≤ 200) (hB : B.length ≤ 200) : FX pw w (n + 9) 45 [S (mk A), S (mk B), I mc] s fun v H => H = [] ∧ v = I (lev subCost mc A B) := by
  refine fx_body (n := n + 5) (nm := nmLev) (ps := ["a", "b", "max_cost"]) (par := [some 0, some 1, some 2, none, none, none, none, none, none, none, none, none, none, none, none, none, none, none, none, none, none]) hf gb hg rfl rfl rfl rfl (by decide) (fun pm cd doc vs hv => ?_) rfl (by decide) (by decide) fun env => ?_
  · obtain ⟨x, y, z, rfl⟩ := len3 hv
    kernel_rfl
  refine WS.clear ?_
  have hszA : ∀ l : List Nat, l.length ≤ 200 → (mk l).length ≤ sizeLine := fun l h => by rw [mk_length, sizeLine_eq]; omega
  refine ws_cons (ws_If (wt_Compare ?_ rfl))
  kln_le
  kln_le
  refine wc_eqs ⟨_, rfl, ?_⟩
  rw [mk_beq]
  unfold lev
  by_cases hab : A = B
  · rw [if_pos hab, decide_eq_true hab]
    exact ws_cons (ws_Return (we_int ⟨rfl, rfl⟩))
  rw [if_neg hab, decide_eq_false hab]
  refine ws_nil ?_
  refine ws_cons (ws_Assign rfl (we_int (wn_local 3 rfl ?_)))
  -- the common head
  refine ws_cons (ws_WhileD (X := Nat) (fun p => [some (S (mk A)), some (S (mk B)), some (I mc), some (I (p : Nat))] ++ u11) (fun p H => H = [] ∧ p ≤ A.length ∧ p ≤ B.length ∧ strip (A.drop p) (B.drop p) = strip A B) (fun p => A.length - p)
    (fun p H => H = [] ∧ p ≤ A.length ∧ p ≤ B.length ∧ strip A B = (A.drop p, B.drop p)) 0 ⟨rfl, rfl, rfl, rfl, trivial⟩ ⟨rfl, Nat.zero_le _, Nat.zero_le _, rfl⟩ ?_ ?_)
  · rintro p _ ⟨rfl, hp1, hp2, hp3⟩
    refine wt_BoolOp (wt_and_cons (wt_value rfl (we_sliceFrom (A := A) (k := p) hp1 hA ?_)))
    kln_le
    refine ⟨rfl, ?_⟩
    kln_le
    refine ⟨rfl, wtr_mk (by rw [List.length_drop]; omega) ?_⟩
    by_cases h1 : p < A.length
    · have e1 := List.drop_eq_getElem_cons h1
      rw [e1]
      refine wt_and_cons (wt_value rfl (we_sliceFrom (A := B) (k := p) hp2 hB ?_))
      kln_le
      refine ⟨rfl, ?_⟩
      kln_le
      refine ⟨rfl, wtr_mk (by rw [List.length_drop]; omega) ?_⟩
      by_cases h2 : p < B.length
      · have e2 := List.drop_eq_getElem_cons h2
        rw [e2]
        rw [e1, e2] at hp3
        refine wt_and_cons (wt_Compare ?_ rfl)
        refine we_Sub ?_
        kln_le
        kln_le
        refine wsub_str (c := A[p]) (by simp; omega) (by rw [mk_length]; exact index_nat h1) ?_ (fun _ _ => rfl)
        refine we_Sub ?_
        kln_le
        kln_le
        refine wsub_str (c := B[p]) (by simp; omega) (by rw [mk_length]; exact index_nat h2) ?_ (fun _ _ => rfl)
        refine wc_eqs ⟨_, rfl, ?_⟩
        rw [str1_beq]
        by_cases hc : A[p] = B[p]
        · rw [decide_eq_true hc]
          refine wt_and_nil ?_
          refine ws_cons (ws_Aug (wl_name 3 rfl rfl (by decide) ?_ rfl))
          refine we_int (wb_iadd (wn_local 3 rfl (ws_nil ?_)))
          refine ⟨p + 1, [], by omega, ⟨rfl, rfl, rfl, rfl, trivial⟩, List.Sublist.refl _, rfl, h1, h2, ?_⟩
          rw [← hp3, strip, if_pos hc]
        · rw [decide_eq_false hc]
          refine ⟨rfl, hp1, hp2, ?_⟩
          rw [← hp3, strip, if_neg hc]
      · have e2 : B.drop p = [] := List.drop_eq_nil_of_le (by omega)
        rw [e2]
        refine ⟨rfl, hp1, hp2, ?_⟩
        rw [← hp3, e2, e1]
        rfl
    · have e1 : A.drop p = [] := List.drop_eq_nil_of_le (by omega)
      rw [e1]
      refine ⟨rfl, hp1, hp2, ?_⟩
      rw [← hp3, e1]
      unfold strip
      cases B.drop p <;> rfl
  rintro p _ ⟨rfl, hp1, hp2, hst⟩
  rw [hst]
  dsimp only
  refine ws_cons (ws_Assign rfl (we_sliceFrom (A := A) (k := p) hp1 hA ?_))
  kln_le
  refine ⟨rfl, ?_⟩
  kln_le
  refine ⟨rfl, wn_local 0 rfl ?_⟩
  refine ws_cons (ws_Assign rfl (we_sliceFrom (A := B) (k := p) hp2 hB ?_))
  kln_le
  refine ⟨rfl, ?_⟩
  kln_le
  refine ⟨rfl, wn_local 1 rfl ?_⟩
  have hA1 : (A.drop p).length ≤ 200 := by rw [List.length_drop]; omega
  have hB1 : (B.drop p).length ≤ 200 := by rw [List.length_drop]; omega
  generalize A.drop p = A1 at hA1
  generalize B.drop p = B1 at hB1
  refine ws_cons (ws_Assign rfl (we_int (wn_local 4 rfl ?_)))
  refine ws_cons (ws_WhileD (X := Nat) (fun q => [some (S (mk A1)), some (S (mk B1)), some (I mc), none, some (I (-(q : Nat)))] ++ u11.tail)
    (fun q H => H = [] ∧ q ≤ A1.length ∧ q ≤ B1.length ∧ strip (A1.reverse.drop q) (B1.reverse.drop q) = strip A1.reverse B1.reverse) (fun q => A1.length - q)
    (fun q H => H = [] ∧ q ≤ A1.length ∧ q ≤ B1.length ∧ strip A1.reverse B1.reverse = (A1.reverse.drop q, B1.reverse.drop q)) 0 ⟨rfl, rfl, rfl, rfl, trivial⟩ ⟨rfl, Nat.zero_le _, Nat.zero_le _, rfl⟩ ?_ ?_)
  · rintro q _ ⟨rfl, hq1, hq2, hq3⟩
    refine wt_BoolOp (wt_and_cons (wt_value rfl (we_sliceTo (A := A1) (k := q) hq1 hA1 ?_)))
    kln_le
    refine ⟨rfl, ?_⟩
    kln_le
    refine ⟨rfl, wtr_mk (take_le hA1) ?_⟩
    by_cases h1 : q < A1.length
    · have e0 : (A1.take (A1.length - q)).isEmpty = false := by rw [List.isEmpty_eq_false_iff]; intro e; have := congrArg List.length e; simp at this; omega
      have e1 := List.drop_eq_getElem_cons (l := A1.reverse) (i := q) (by simpa using h1)
      rw [List.getElem_reverse] at e1
      rw [e0]
      refine wt_and_cons (wt_value rfl (we_sliceTo (A := B1) (k := q) hq2 hB1 ?_))
      kln_le
      refine ⟨rfl, ?_⟩
      kln_le
      refine ⟨rfl, wtr_mk (take_le hB1) ?_⟩
      by_cases h2 : q < B1.length
      · have e0 : (B1.take (B1.length - q)).isEmpty = false := by rw [List.isEmpty_eq_false_iff]; intro e; have := congrArg List.length e; simp at this; omega
        have e2 := List.drop_eq_getElem_cons (l := B1.reverse) (i := q) (by simpa using h2)
        rw [List.getElem_reverse] at e2
        rw [e0]
        rw [e1, e2] at hq3
        refine wt_and_cons (wt_Compare ?_ rfl)
        refine we_Sub ?_
        kln_le
        refine we_BinOp ?_
        kln_le
        refine we_int (wb_sub ?_)
        refine wsub_str (c := A1[A1.length - 1 - q]) (by simp; omega) (by rw [mk_length]; exact index_neg h1) ?_ (fun _ _ => rfl)
        refine we_Sub ?_
        kln_le
        refine we_BinOp ?_
        kln_le
        refine we_int (wb_sub ?_)
        refine wsub_str (c := B1[B1.length - 1 - q]) (by simp; omega) (by rw [mk_length]; exact index_neg h2) ?_ (fun _ _ => rfl)
        refine wc_eqs ⟨_, rfl, ?_⟩
        rw [str1_beq]
        by_cases hc : A1[A1.length - 1 - q] = B1[B1.length - 1 - q]
        · rw [decide_eq_true hc]
          refine wt_and_nil ?_
          refine ws_cons (ws_Aug (wl_name 4 rfl rfl (by decide) ?_ rfl))
          refine we_int (wb_isub (wn_local 4 rfl (ws_nil ?_)))
          refine ⟨q + 1, [], by omega, ⟨rfl, rfl, rfl, ?_, trivial⟩, List.Sublist.refl _, rfl, h1, h2, ?_⟩
          · rw [show -((q + 1 : Nat) : Int) = -(q : Int) - 1 by omega]
          · rw [← hq3, strip, if_pos hc]
        · rw [decide_eq_false hc]
          refine ⟨rfl, hq1, hq2, ?_⟩
          rw [← hq3, strip, if_neg hc, e1, e2]
      · have e2 : B1.reverse.drop q = [] := List.drop_eq_nil_of_le (by simp; omega)
        have e0 : B1.take (B1.length - q) = [] := by rw [show B1.length - q = 0 by omega]; rfl
        rw [e0]
        refine ⟨rfl, hq1, hq2, ?_⟩
        rw [← hq3, e2, e1]
        rfl
    · have e1 : A1.reverse.drop q = [] := List.drop_eq_nil_of_le (by simp; omega)
      have e0 : A1.take (A1.length - q) = [] := by rw [show A1.length - q = 0 by omega]; rfl
      rw [e0]
      refine ⟨rfl, hq1, hq2, ?_⟩
      rw [← hq3, e1]
      unfold strip
      cases B1.reverse.drop q <;> rfl
  rintro q _ ⟨rfl, hq1, hq2, hst2⟩
  rw [hst2]
  dsimp only
  refine ws_cons (ws_Assign rfl (we_sliceTo (A := A1) (k := q) hq1 hA1 ?_))
  kln_le
  refine ⟨rfl, ?_⟩
  kln_le
  refine ⟨rfl, wn_local 0 rfl ?_⟩
  refine ws_cons (ws_Assign rfl (we_sliceTo (A := B1) (k := q) hq2 hB1 ?_))
  kln_le
  refine ⟨rfl, ?_⟩
  kln_le
  refine ⟨rfl, wn_local 1 rfl ?_⟩
  rw [List.drop_reverse, List.drop_reverse, List.reverse_reverse, List.reverse_reverse]
  have hA2 : (A1.take (A1.length - q)).length ≤ 200 := take_le hA1
  have hB2 : (B1.take (B1.length - q)).length ≤ 200 := take_le hB1
  generalize A1.take (A1.length - q) = A2 at hA2
  generalize B1.take (B1.length - q) = B2 at hB2
  unfold levT
  refine ws_cons (ws_IfD (A2 = [] ∨ B2 = []) ?_ (fun he => ?_) fun he => ?_)
  · refine wt_BoolOp (wt_or_cons (wt_not (wt_value rfl ?_)))
    kln_le
    refine wtr_mk hA2 ?_
    cases A2 with
    | nil => exact ⟨by simp, rfl⟩
    | cons a x =>
      refine wt_or_cons (wt_not (wt_value rfl ?_))
      kln_le
      refine wtr_mk hB2 ?_
      cases B2 with
      | nil => exact ⟨by simp, rfl⟩
      | cons b y => exact wt_or_nil ⟨by simp, rfl⟩
  · rw [if_pos he]
    refine ws_cons (ws_Return (we_BinOp (we_globI 14 rfl N.mc ?_ rfl)))
    refine we_BinOp (we_call1 15 rfl N.nlen N.len rfl rfl ?_)
    kln_le
    refine wc_len_str (mk_small hA2) ?_
    refine we_call1 15 rfl N.nlen N.len rfl rfl ?_
    kln_le
    refine wc_len_str (mk_small hB2) ?_
    refine wb_add (wb_mul (IntMulOk.of_left (by decide)) ⟨rfl, ?_⟩)
    rw [mk_length, mk_length]
  rw [if_neg he]
  refine ws_nil ?_
  refine ws_cons (ws_IfD (40 < A2.length ∨ 40 < B2.length) ?_ (fun h40 => ?_) fun h40 => ?_)
  · refine wt_BoolOp (wt_or_cons (wt_Compare (we_call1 15 rfl N.nlen N.len rfl rfl ?_) rfl))
    kln_le
    refine wc_len_str (mk_small hA2) ?_
    refine we_globI 16 rfl N.ms ?_ rfl
    refine wc_gt ⟨_, rfl, ?_⟩
    rw [mk_length]
    by_cases h1 : 40 < A2.length
    · rw [decide_eq_true (by omega : (40 : Int) < A2.length)]
      exact ⟨by simp [h1], rfl⟩
    · rw [decide_eq_false (by omega : ¬ (40 : Int) < A2.length)]
      refine wt_or_cons (wt_Compare (we_call1 15 rfl N.nlen N.len rfl rfl ?_) rfl)
      kln_le
      refine wc_len_str (mk_small hB2) ?_
      refine we_globI 16 rfl N.ms ?_ rfl
      refine wc_gt ⟨_, rfl, ?_⟩
      rw [mk_length]
      by_cases h2 : 40 < B2.length
      · rw [decide_eq_true (by omega : (40 : Int) < B2.length)]
        exact ⟨by simp [h2], rfl⟩
      · rw [decide_eq_false (by omega : ¬ (40 : Int) < B2.length)]
        exact wt_or_nil ⟨by simp [h1, h2], rfl⟩
  · rw [if_pos h40]
    refine ws_cons (ws_Return (we_BinOp ?_))
    kln_le
    exact we_int (wb_add ⟨rfl, rfl⟩)
  rw [if_neg h40]
  refine ws_nil ?_
  refine ws_cons (WS.mono (Q := fun fl F' H' => fl = .next ∧ H' = [] ∧ SubL ([some (S (mk (if B2.length < A2.length then (B2, A2) else (A2, B2)).1)), some (S (mk (if B2.length < A2.length then (B2, A2) else (A2, B2)).2)), some (I mc), none] ++ u11) F')
    (ws_IfD (B2.length < A2.length) ?_ (fun hsw => ?_) fun hsw => ?_) ?_)
  · refine wt_Compare (we_call1 15 rfl N.nlen N.len rfl rfl ?_) rfl
    kln_le
    refine wc_len_str (mk_small hB2) ?_
    refine we_call1 15 rfl N.nlen N.len rfl rfl ?_
    kln_le
    refine wc_len_str (mk_small hA2) ?_
    refine wc_lt ⟨_, rfl, ?_, rfl⟩
    rw [mk_length, mk_length]
    by_cases h : B2.length < A2.length
    · rw [decide_eq_true h, decide_eq_true (by omega : (B2.length : Int) < A2.length)]
    · rw [decide_eq_false h, decide_eq_false (by omega : ¬ (B2.length : Int) < A2.length)]
  · refine ws_cons (ws_Swap2 rfl (fun P s st => ?_) rfl rfl ?_)
    · exact swap_names (st.ok.kindOf (i := 0) rfl) (st.ok.kindOf (i := 1) rfl) st.ok.kind (by decide) rfl rfl
    kln_le
    kln_le
    refine wn_local 1 rfl (wn_local 0 rfl (ws_nil ⟨rfl, rfl, ?_⟩))
    rw [if_pos hsw]
    exact ⟨rfl, rfl, rfl, trivial⟩
  · refine ws_nil ⟨rfl, rfl, ?_⟩
    rw [if_neg hsw]
    exact ⟨rfl, rfl, rfl, trivial⟩
  rintro fl F' H' ⟨rfl, rfl, sub⟩
  refine WS.at' sub ?_
  have hlen : (if B2.length < A2.length then (B2, A2) else (A2, B2)).1.length ≤ (if B2.length < A2.length then (B2, A2) else (A2, B2)).2.length ∧ (if B2.length < A2.length then (B2, A2) else (A2, B2)).2.length ≤ 40 := by
    split <;> simp <;> omega
  generalize (if B2.length < A2.length then (B2, A2) else (A2, B2)) = pq at hlen
  obtain ⟨C, D⟩ := pq
  obtain ⟨hl1, hl2⟩ := hlen
  dsimp only at hl1 hl2 ⊢
  refine ws_cons (ws_IfD (mc < (D.length - C.length : Int) * 2) ?_ (fun hfar => ?_) fun hfar => ?_)
  · refine wt_Compare (we_BinOp (we_BinOp (we_call1 15 rfl N.nlen N.len rfl rfl ?_))) rfl
    kln_le
    refine wc_len_str (mk_small (by omega)) ?_
    refine we_call1 15 rfl N.nlen N.len rfl rfl ?_
    kln_le
    refine wc_len_str (mk_small (by omega)) ?_
    refine wb_sub (we_globI 14 rfl N.mc (wb_mul (IntMulOk.of_right (by decide)) ?_) rfl)
    kln_le
    refine wc_gt ⟨_, rfl, ?_, rfl⟩
    rw [mk_length, mk_length]
  · rw [if_pos hfar]
    refine ws_cons (ws_Return (we_BinOp ?_))
    kln_le
    exact we_int (wb_add ⟨rfl, rfl⟩)
  rw [if_neg hfar]
  refine ws_nil ?_
  have hrow : ∀ l : Nat, l ≤ 40 → Builtin.divisionGoesByPylong ((2 * (l + 1) : Int) - 2) 2 = false ∧ Builtin.Range.small 2 (2 * (l + 1)) 2 = true ∧ Builtin.Range.rangeSize 2 (2 * (l + 1)) 2 = (l : Int) := by
    have : ∀ l : Fin 41, Builtin.divisionGoesByPylong ((2 * ((l.val : Int) + 1) : Int) - 2) 2 = false ∧ Builtin.Range.small 2 (2 * ((l.val : Int) + 1)) 2 = true ∧ Builtin.Range.rangeSize 2 (2 * ((l.val : Int) + 1)) 2 = (l.val : Int) := by decide +kernel
    exact fun l h => this ⟨l, by omega⟩
  obtain ⟨r1, r2, r3⟩ := hrow C.length (by omega)
  refine ws_cons (ws_Assign rfl (we_listRange3 (a := 2) (b := 2 * ((C.length : Int) + 1)) (c := 2) (k := C.length) (we_blt 17 rfl N.nlist N.list ⟨rfl, rfl⟩ rfl) (we_blt 18 rfl N.nrange N.range ⟨rfl, rfl⟩ rfl) rfl rfl rfl rfl rfl (by decide) r1 r2 r3 (by omega) ?_))
  refine we_globI 14 rfl N.mc ⟨rfl, ?_⟩ rfl
  refine we_BinOp (we_globI 14 rfl N.mc (we_BinOp (we_call1 15 rfl N.nlen N.len rfl rfl ?_)) rfl)
  kln_le
  refine wc_len_str (mk_small (by omega)) ?_
  refine we_int (wb_add (wb_mul (IntMulOk.of_left (by decide)) ⟨?_, ?_⟩))
  · rw [mk_length]
  refine we_globI 14 rfl N.mc ⟨rfl, fun R => wn_local 5 rfl ?_⟩ rfl
  have erow : rangeInts 2 2 C.length = rowOf C.length := by
    unfold rangeInts rowOf
    refine List.map_congr_left fun i _ => ?_
    omega
  rw [erow]
  have hrl : (rowOf C.length).length = C.length := by simp [rowOf]
  generalize rowOf C.length = row0 at hrl
  refine ws_cons (ws_Assign rfl (we_int (wn_local 6 rfl ?_)))
  refine ws_cons (ws_ForX (X := List Int × Int) (xs := rangeVals 0 ((D.length : Nat) : Int).toNat) (fun i x => [some (S (mk C)), some (S (mk D)), some (I mc), none, none, some (.ref R), some (I x.2)] ++ [none, none, none, none, none, none, none, none, none, none, none, none, none, none])
    (fun i x H => H = [(R, x.1.map I)] ∧ x.1.length = C.length ∧ outer subCost mc C (D.drop i) i x.1 x.2 = outer subCost mc C D 0 row0 0) (row0, 0) (fun _ => rfl) (fun _ _ => rfl) ?_ ?_ ?_ ?_)
  · exact ⟨rfl, rfl, rfl, rfl, rfl, trivial⟩
  · refine wi_range1 (k := (D.length : Int)) (we_blt 18 rfl N.nrange N.range ⟨rfl, rfl⟩ rfl) rfl (we_call1 15 rfl N.nlen N.len rfl rfl ?_)
    kln_le
    refine wc_len_str (mk_small (by omega)) ⟨by rw [mk_length], by omega, by omega, rfl, hrl, rfl⟩
  · rintro i ⟨row, res⟩ _ a ⟨rfl, hlr, hout⟩ ha
    obtain ⟨hi, rfl⟩ := rangeVals_get ha
    rw [Int.toNat_natCast] at hi
    have ed := List.drop_eq_getElem_cons hi
    rw [ed] at hout
    dsimp only at hlr hout ⊢
    generalize hbc : D[i] = bc at hout ed
    refine wn_assign (wn_local 7 rfl ?_)
    rw [show (0 : Int) + (i : Nat) = (i : Nat) by omega]
    refine ws_cons (ws_Assign rfl (we_Sub ?_))
    kln_le
    kln_le
    refine wsub_str (c := bc) (by simp; omega) (by rw [mk_length, index_nat hi, hbc]) (wn_local 8 rfl ?_) (fun _ _ => rfl)
    refine ws_cons (ws_Assign2 rfl rfl (we_BinOp ?_))
    kln_le
    refine we_globI 14 rfl N.mc (wb_mul (IntMulOk.of_right (by decide)) (wn_assign (wn_local 9 rfl (wn_assign (wn_local 6 rfl ?_))))) rfl
    refine ws_cons (ws_Assign rfl (we_int (wn_local 10 rfl ?_)))
    refine ws_cons (ws_ForX (X := List Int × Int × Int × Int) (xs := rangeVals 0 ((C.length : Nat) : Int).toNat)
      (fun j x => [some (S (mk C)), some (S (mk D)), some (I mc), none, none, some (.ref R), some (I x.2.2.1), some (I (i : Nat)), some (S ⟨#[bc]⟩), some (I x.2.1), some (I x.2.2.2)] ++ [none, none, none, none, none, none, none, none, none, none])
      (fun j x H => H = [(R, (x.1 ++ row.drop j).map I)] ∧ x.1.length = j ∧ inner subCost bc C row (2 * i) (2 * i) 9223372036854775807 = (x.1 ++ (inner subCost bc (C.drop j) (row.drop j) x.2.1 x.2.2.1 x.2.2.2).1, (inner subCost bc (C.drop j) (row.drop j) x.2.1 x.2.2.1 x.2.2.2).2))
      ([], (2 * i : Int), (2 * i : Int), 9223372036854775807) (fun _ => rfl) (fun _ _ => rfl) ?_ ?_ ?_ ?_)
    · refine ⟨rfl, rfl, rfl, rfl, ?_, rfl, rfl, ?_, rfl, trivial⟩ <;> (dsimp only; rw [Int.mul_comm])
    · refine wi_range1 (k := (C.length : Int)) (we_blt 18 rfl N.nrange N.range ⟨rfl, rfl⟩ rfl) rfl (we_call1 15 rfl N.nlen N.len rfl rfl ?_)
      kln_le
      exact wc_len_str (mk_small (by omega)) ⟨by rw [mk_length], by omega, by omega, rfl, rfl, rfl⟩
    · rintro j ⟨done, dist, res1, mn⟩ _ a ⟨rfl, hd, hin⟩ ha
      obtain ⟨hj, rfl⟩ := rangeVals_get ha
      rw [Int.toNat_natCast] at hj
      have hjr : j < row.length := by omega
      have ec := List.drop_eq_getElem_cons hj
      have er := List.drop_eq_getElem_cons hjr
      dsimp only at hd hin ⊢
      have hget : ((done ++ row.drop j).map I)[j]? = some (I row[j]) := by
        rw [List.getElem?_map, List.getElem?_append_right (by omega), hd, er]
        simp
      rw [ec, er] at hin
      have hset : ∀ v : Int, ((done ++ row.drop j).map I).set j (I v) = ((done ++ [v]) ++ row.drop (j + 1)).map I := by
        intro v
        rw [er, ← List.map_set, List.set_append, if_neg (by omega), hd, Nat.sub_self, List.set_cons_zero, List.append_assoc]
        rfl
      generalize hcc : C[j] = c at hin
      generalize hrr : row[j] = r at hin hget
      refine wn_assign (wn_local 11 rfl ?_)
      rw [show (0 : Int) + (j : Nat) = (j : Nat) by omega]
      refine ws_cons (ws_Assign rfl (we_BinOp ?_))
      kln_le
      refine we_Call (we_glob 19 rfl N.sub (fun f' hf' => ?_) rfl)
      cases hf'
      refine we_fn (m := (n + 1) + 4) (Nat.le_refl _) rfl rfl (by obtain ⟨o, pm, cd, doc, h1, h2, _⟩ := hs; exact ⟨o, _, h1, h2⟩) (wl_cons rfl ?_)
      kln_le
      refine wl_cons rfl (we_Sub ?_)
      kln_le
      kln_le
      refine wsub_str (c := c) (by simp; omega) (by rw [mk_length, index_nat hj, hcc]) (wl_nil fun s' z00 => z00.elim fun P' st' => (fx_sub (n := n + 1) st'.gbase st'.gens (hs.keeps st'.keep) N.cc N.mc).mono (fun a H' z00 => z00.elim fun e1 e2 => ?_) (Nat.le_refl _)) (fun _ _ => rfl)
      subst e1 e2
      refine wb_add (wn_local 12 rfl ?_)
      refine ws_cons (ws_Assign rfl (we_Sub ?_))
      kln_le
      kln_le
      refine wsub_list (xs := (done ++ row.drop j).map I) (x := I r) (.inl (by simp)) (by omega) (by omega) (by rw [Int.toNat_natCast]; exact hget) (wn_local 9 rfl ?_) (fun _ => rfl)
      refine ws_cons (ws_Assign rfl (we_BinOp (we_call2 20 rfl N.nmin N.min rfl rfl rfl ?_)))
      kln_le
      kln_le
      refine wc_min (we_globI 14 rfl N.mc (wb_add (wn_local 13 rfl ?_)) rfl)
      refine ws_cons (ws_Assign rfl (we_call2 20 rfl N.nmin N.min rfl rfl rfl ?_))
      kln_le
      kln_le
      refine wc_min (wn_local 6 rfl ?_)
      have hx : (if dist + subCost bc c < (if r < res1 then r else res1) + 2 then dist + subCost bc c else (if r < res1 then r else res1) + 2) = min (min res1 r + 2) (dist + subCost bc c) := by
        split <;> split <;> omega
      rw [hx]
      rw [inner] at hin
      dsimp only at hin
      generalize min (min res1 r + 2) (dist + subCost bc c) = x at hin ⊢
      refine ws_cons (ws_Store rfl ?_)
      kln_le
      kln_le
      kln_le
      refine ⟨0, R, _, (j : Nat), rfl, rfl, rfl, by omega, by omega, by simp; omega, ?_⟩
      rw [Int.toNat_natCast, hset x]
      refine ws_cons (ws_IfD (x < mn) ?_ (fun hlt => ?_) fun hlt => ?_)
      · refine wt_Compare ?_ rfl
        kln_le
        kln_le
        exact wc_lt ⟨_, rfl, rfl, rfl⟩
      · refine ws_cons (ws_Assign rfl ?_)
        kln_le
        refine wn_local 10 rfl (ws_nil (ws_nil ⟨(done ++ [x], r, x, min x mn), _, ?_, List.Sublist.refl _, rfl, by simp; omega, ?_⟩))
        · rw [show min x mn = x by omega]
          exact ⟨rfl, rfl, rfl, rfl, rfl, rfl, rfl, rfl, rfl, trivial⟩
        · rw [hin]
          simp
      · refine ws_nil (ws_nil ⟨(done ++ [x], r, x, min x mn), _, ?_, List.Sublist.refl _, rfl, by simp; omega, ?_⟩)
        · rw [show min x mn = mn by omega]
          exact ⟨rfl, rfl, rfl, rfl, rfl, rfl, rfl, rfl, rfl, trivial⟩
        · rw [hin]
          simp
    · rintro ⟨done, dist, res1, mn⟩ _ ⟨rfl, hd, hin⟩
      rw [rangeVals_length, Int.toNat_natCast] at hd hin ⊢
      dsimp only at hd hin ⊢
      rw [List.drop_length, ← hlr, List.drop_length] at hin
      have hin' : inner subCost bc C row (2 * i) (2 * i) 9223372036854775807 = (done, res1, mn) := by
        rw [hin]
        simp [inner]
      rw [outer, hin'] at hout
      have hH : (done ++ row.drop C.length).map I = done.map I := by rw [← hlr, List.drop_length, List.append_nil]
      rw [hH]
      refine ws_cons (ws_IfD (mc < mn) ?_ (fun hgt => ?_) fun hgt => ?_)
      · refine wt_Compare ?_ rfl
        kln_le
        kln_le
        exact wc_gt ⟨_, rfl, rfl, rfl⟩
      · rw [if_pos hgt] at hout
        refine ws_cons (ws_Return (we_BinOp ?_))
        kln_le
        exact we_int (wb_add ⟨rfl, by rw [← hout]⟩)
      · rw [if_neg hgt] at hout
        exact ws_nil (ws_nil ⟨(done, res1), _, ⟨rfl, rfl, rfl, rfl, rfl, trivial⟩, List.Sublist.refl _, rfl, hd, hout⟩)
  · rintro ⟨row, res⟩ _ ⟨rfl, hlr, hout⟩
    rw [rangeVals_length, Int.toNat_natCast, List.drop_length] at hout
    refine ws_cons (ws_Return ?_)
    kln_le
    refine ⟨rfl, ?_⟩
    rw [← hout]
    rfl
end Mine
end

section
open PySem PySem.W PyProof.Rows
set_option Elab.async false
set_option linter.unusedVariables false
namespace Mine
noncomputable def flat (l : List Str) : List Nat := l.flatMap (·.cps.toList)
theorem join_flat (l : List Str) : Txt.join Str.empty l = mk (flat l) := by
  have e := join_plain_closes Str.empty l
  rw [beq_iff_eq] at e
  rw [e]
  have h : ∀ l : List Str, (Str.join Str.empty l).cps.toList = flat l := by
    intro l
    induction l with
    | nil => rfl
    | cons x r ih =>
      cases r with
      | nil => simp [Str.join, flat]
      | cons y r =>
        have : Str.join Str.empty (x :: y :: r) = x ++ Str.empty ++ Str.join Str.empty (y :: r) := rfl
        rw [this]
        show ((x.cps ++ #[]) ++ (Str.join Str.empty (y :: r)).cps).toList = _
        rw [Array.toList_append, ih]
        simp [flat]
  have := h l
  show Str.join Str.empty l = ⟨(flat l).toArray⟩
  rw [← this]
theorem flat_len (l : List Str) : (flat l).length = (l.map (·.length)).sum := by
  induction l with
  | nil => rfl
  | cons x r ih =>
    show (x.cps.toList ++ flat r).length = x.length + (r.map (·.length)).sum
    rw [List.length_append, ih]
    rfl
/-- line ends turned: b, a return stood ahead -/
noncomputable def norm : Bool → List Nat → List Nat
  | _, [] => []
  | b, c :: r => if b = true ∧ c = 10 then norm false r else if c = 13 then 13 :: 10 :: norm true r else if c = 10 then 13 :: 10 :: norm false r else c :: norm false r
/-- dots at the head of a line -/
noncomputable def dots : Bool → List Nat → List Nat
  | _, [] => []
  | b, c :: r => if b = true ∧ c = 46 then 46 :: 46 :: dots false r else c :: dots (c == 10) r
theorem norm_cons (b : Bool) (c : Nat) (r : List Nat) : norm b (c :: r) = if b = true ∧ c = 10 then norm false r else if c = 13 then 13 :: 10 :: norm true r else if c = 10 then 13 :: 10 :: norm false r else c :: norm false r := rfl
theorem dots_cons (b : Bool) (c : Nat) (r : List Nat) : dots b (c :: r) = if b = true ∧ c = 46 then 46 :: 46 :: dots false r else c :: dots (c == 10) r := rfl
theorem norm_true {r : List Nat} (h : ∀ r', r ≠ 10 :: r') : norm true r = norm false r := by
  cases r with
  | nil => rfl
  | cons c r =>
    have hc : c ≠ 10 := fun e => h r (by rw [e])
    simp [norm_cons, hc]
section
variable {l : List Nat}
theorem getD_list (i : Nat) (h : i < l.length) : l.toArray.getD i 0 = l[i] := by
  rw [Array.getD_eq_getD_getElem?]
  simp [h]
theorem norm_to : ∀ (n s : Nat), s + n ≤ l.length → (∀ i, s ≤ i → i < s + n → isEnd (l.toArray.getD i 0) = false) → norm false (l.drop s) = (l.drop s).take n ++ norm false (l.drop (s + n))
  | 0, s, _, _ => by simp
  | n + 1, s, h, hi => by
    have e := List.drop_eq_getElem_cons (l := l) (i := s) (by omega)
    have hc := hi s (Nat.le_refl _) (by omega)
    rw [getD_list s (by omega)] at hc
    unfold isEnd at hc
    simp only [Bool.or_eq_false_iff, beq_eq_false_iff_ne] at hc
    have ih := norm_to n (s + 1) (by omega) fun i h1 h2 => hi i (by omega) (by omega)
    rw [e, norm_cons, if_neg (fun q => hc.1 q.2), if_neg hc.2, if_neg hc.1, ih, List.take_succ_cons, show s + 1 + n = s + (n + 1) by omega]
    rfl
noncomputable def bolAt (x : Array Nat) (s : Nat) : Bool := s == 0 || x.getD (s - 1) 0 == 10
theorem dots_to : ∀ (n s : Nat), s + n ≤ l.length → (∀ i, s ≤ i → i < s + n → hit1 l.toArray i = false) → dots (bolAt l.toArray s) (l.drop s) = (l.drop s).take n ++ dots (bolAt l.toArray (s + n)) (l.drop (s + n))
  | 0, s, _, _ => by simp
  | n + 1, s, h, hi => by
    have e := List.drop_eq_getElem_cons (l := l) (i := s) (by omega)
    have hc := hi s (Nat.le_refl _) (by omega)
    unfold hit1 at hc
    rw [getD_list s (by omega)] at hc
    have hs : decide (s < l.toArray.size) = true := by simp; omega
    rw [hs, Bool.true_and] at hc
    have ih := dots_to n (s + 1) (by omega) fun i h1 h2 => hi i (by omega) (by omega)
    have hb : bolAt l.toArray (s + 1) = (l[s]'(by omega) == 10) := by
      unfold bolAt
      rw [show s + 1 - 1 = s from rfl, getD_list s (by omega)]
      simp
    rw [hb] at ih
    have hn : ¬ (bolAt l.toArray s = true ∧ l[s]'(by omega) = 46) := by
      rintro ⟨q1, q2⟩
      unfold bolAt at q1
      rw [q1, q2] at hc
      exact absurd hc (by decide)
    rw [e, dots_cons, if_neg hn, ih, List.take_succ_cons, show s + 1 + n = s + (n + 1) by omega]
    rfl
end
theorem find1_some {x : Array Nat} : ∀ (k s p : Nat), find1 x k s = some p → s ≤ p ∧ p ≤ s + k ∧ hit1 x p = true ∧ ∀ i, s ≤ i → i < p → hit1 x i = false
  | 0, s, p, h => by
    unfold find1 at h
    split at h
    · cases h; rename_i q; exact ⟨Nat.le_refl _, by omega, q, fun i h1 h2 => absurd h1 (by omega)⟩
    · cases h
  | k + 1, s, p, h => by
    unfold find1 at h
    split at h
    · cases h; rename_i q; exact ⟨Nat.le_refl _, by omega, q, fun i h1 h2 => absurd h1 (by omega)⟩
    · rename_i q
      obtain ⟨a, b, c, d⟩ := find1_some k (s + 1) p h
      refine ⟨by omega, by omega, c, fun i h1 h2 => ?_⟩
      by_cases e : i = s
      · subst e; simpa using q
      · exact d i (by omega) h2
theorem find1_none {x : Array Nat} : ∀ (k s : Nat), find1 x k s = none → ∀ i, s ≤ i → i ≤ s + k → hit1 x i = false
  | 0, s, h, i, h1, h2 => by
    unfold find1 at h
    split at h
    · cases h
    · rename_i q
      have : i = s := by omega
      subst this
      simpa using q
  | k + 1, s, h, i, h1, h2 => by
    unfold find1 at h
    split at h
    · cases h
    · rename_i q
      by_cases e : i = s
      · subst e; simpa using q
      · exact find1_none k (s + 1) h i (by omega) (by omega)
theorem find2_some {x : Array Nat} : ∀ (k s p : Nat), find2 x k s = some p → s ≤ p ∧ p < x.size ∧ isEnd (x.getD p 0) = true ∧ ∀ i, s ≤ i → i < p → isEnd (x.getD i 0) = false
  | k + 1, s, p, h => by
    unfold find2 at h
    split at h
    · cases h; rename_i q; exact ⟨Nat.le_refl _, q.1, q.2, fun i h1 h2 => absurd h1 (by omega)⟩
    · rename_i q
      obtain ⟨a, b, c, d⟩ := find2_some k (s + 1) p h
      refine ⟨by omega, b, c, fun i h1 h2 => ?_⟩
      by_cases e : i = s
      · subst e
        cases h3 : isEnd (x.getD i 0) with
        | false => rfl
        | true => exact absurd ⟨by omega, h3⟩ q
      · exact d i (by omega) h2
theorem find2_none {x : Array Nat} : ∀ (k s : Nat), find2 x k s = none → ∀ i, s ≤ i → i < s + k → i < x.size → isEnd (x.getD i 0) = false
  | 0, s, h, i, h1, h2, h3 => absurd h2 (by omega)
  | k + 1, s, h, i, h1, h2, h3 => by
    unfold find2 at h
    split at h
    · cases h
    · rename_i q
      by_cases e : i = s
      · subst e
        cases h4 : isEnd (x.getD i 0) with
        | false => rfl
        | true => exact absurd ⟨h3, h4⟩ q
      · exact find2_none k (s + 1) h i (by omega) (by omega) h3
theorem flat_cut (l : List Nat) (s p : Nat) : flat (if s < p then [(⟨(mk l).cps.extract s p⟩ : Str)] else []) = (l.drop s).take (p - s) := by
  split
  · simp [flat]
  · rw [show p - s = 0 by omega]
    rfl
theorem flat_app (a b : List Str) : flat (a ++ b) = flat a ++ flat b := by simp [flat]
theorem flat_cons (a : Str) (b : List Str) : flat (a :: b) = a.cps.toList ++ flat b := by simp [flat]
noncomputable abbrev next2 (x : Array Nat) (st : Nat) : Option (Nat × Nat) := (find2 x (x.size + 1 - st) st).map fun p => (p, if x.getD p 0 = 13 ∧ p + 1 < x.size ∧ x.getD (p + 1) 0 = 10 then p + 2 else p + 1)
noncomputable abbrev next1 (x : Array Nat) (st : Nat) : Option (Nat × Nat) := (find1 x (x.size - st) st).map fun p => (p, p + 1)
theorem norm_pieces (l : List Nat) : ∀ (f done : Nat), done ≤ l.length → l.length - done < f → flat (pieces (mk l) (mk [13, 10]) (next2 l.toArray) f done) = norm false (l.drop done)
  | 0, _, _, h => absurd h (Nat.not_lt_zero _)
  | f + 1, done, h1, h2 => by
    have hsz : l.toArray.size = l.length := by simp
    unfold pieces
    cases hf : find2 l.toArray (l.toArray.size + 1 - done) done with
    | none =>
      have hn : next2 l.toArray done = none := by unfold next2; rw [hf]; rfl
      rw [hn]
      dsimp only
      rw [flat_cut]
      have := norm_to (l := l) (l.length - done) done (by omega) fun i a b => find2_none _ _ hf i a (by omega) (by omega)
      rw [this, hsz, show done + (l.length - done) = l.length by omega, List.drop_length]
      simp [norm]
    | some p =>
      obtain ⟨a, b, c, d⟩ := find2_some _ _ _ hf
      rw [hsz] at b
      have hn : next2 l.toArray done = some (p, if l.toArray.getD p 0 = 13 ∧ p + 1 < l.toArray.size ∧ l.toArray.getD (p + 1) 0 = 10 then p + 2 else p + 1) := by unfold next2; rw [hf]; rfl
      rw [hn]
      dsimp only
      have h0 := norm_to (l := l) (p - done) done (by omega) fun i a b => d i a (by omega)
      rw [show done + (p - done) = p by omega] at h0
      have e := List.drop_eq_getElem_cons (l := l) (i := p) b
      rw [getD_list p b] at c
      rw [flat_app, flat_cut, flat_cons, h0, e]
      congr 1
      by_cases h13 : l.toArray.getD p 0 = 13 ∧ p + 1 < l.toArray.size ∧ l.toArray.getD (p + 1) 0 = 10
      · rw [if_pos h13, norm_pieces l f (p + 2) (by omega) (by omega)]
        obtain ⟨q1, q2, q3⟩ := h13
        rw [hsz] at q2
        rw [getD_list p b] at q1
        rw [getD_list (p + 1) q2] at q3
        have e' := List.drop_eq_getElem_cons (l := l) (i := p + 1) q2
        rw [e', q1, q3, norm_cons, if_neg (by decide), if_pos rfl, norm_cons, if_pos ⟨rfl, rfl⟩]
        rfl
      · rw [if_neg h13, norm_pieces l f (p + 1) (by omega) (by omega), norm_cons, if_neg (by simp)]
        unfold isEnd at c
        simp only [Bool.or_eq_true, beq_iff_eq] at c
        rcases c with c | c
        · rw [if_neg (by omega), if_pos c]
          rfl
        · rw [if_pos c]
          show 13 :: 10 :: norm false _ = 13 :: 10 :: norm true _
          rw [norm_true]
          intro r' hr
          have hlt : p + 1 < l.length := by
            have := congrArg List.length hr
            simp at this
            omega
          have e' := List.drop_eq_getElem_cons (l := l) (i := p + 1) hlt
          rw [e'] at hr
          refine h13 ⟨by rw [getD_list p b]; exact c, by omega, ?_⟩
          rw [getD_list (p + 1) hlt]
          exact (List.cons.inj hr).1
theorem dots_pieces (l : List Nat) : ∀ (f done : Nat), done ≤ l.length → l.length - done < f → flat (pieces (mk l) (mk [46, 46]) (next1 l.toArray) f done) = dots (bolAt l.toArray done) (l.drop done)
  | 0, _, _, h => absurd h (Nat.not_lt_zero _)
  | f + 1, done, h1, h2 => by
    have hsz : l.toArray.size = l.length := by simp
    unfold pieces
    cases hf : find1 l.toArray (l.toArray.size - done) done with
    | none =>
      have hn : next1 l.toArray done = none := by unfold next1; rw [hf]; rfl
      rw [hn]
      dsimp only
      rw [flat_cut]
      have := dots_to (l := l) (l.length - done) done (by omega) fun i a b => find1_none _ _ hf i a (by omega)
      rw [this, hsz, show done + (l.length - done) = l.length by omega, List.drop_length]
      simp [dots]
    | some p =>
      obtain ⟨a, b, c, d⟩ := find1_some _ _ _ hf
      have hn : next1 l.toArray done = some (p, p + 1) := by unfold next1; rw [hf]; rfl
      rw [hn]
      dsimp only
      have h0 := dots_to (l := l) (p - done) done (by omega) fun i a b => d i a (by omega)
      rw [show done + (p - done) = p by omega] at h0
      unfold hit1 at c
      simp only [Bool.and_eq_true, decide_eq_true_eq, beq_iff_eq] at c
      obtain ⟨c1, c2, c3⟩ := c
      rw [hsz] at c2
      have e := List.drop_eq_getElem_cons (l := l) (i := p) c2
      rw [getD_list p c2] at c3
      have hb : bolAt l.toArray p = true := c1
      rw [flat_app, flat_cut, flat_cons, h0, e, dots_cons, if_pos ⟨hb, c3⟩]
      congr 1
      rw [dots_pieces l f (p + 1) (by omega) (by omega)]
      have hb2 : bolAt l.toArray (p + 1) = false := by
        unfold bolAt
        rw [show p + 1 - 1 = p from rfl, getD_list p c2, c3]
        simp
      rw [hb2]
      rfl
end Mine
end

section
open PySem PySem.W PyProof.Rows
set_option Elab.async false
set_option linter.unusedVariables false
namespace Mine
section
variable {prog : Program} {w : World} {n : Nat} {mg mb : Str → Option Value} {K : Shared} {env : Env} {nm : List (Str × NameKind)} {oc : Bool} {F : List (Option Value)} {H : List Ent}
/-- pattern.sub(repl, text) -/
theorem we_resub {o e₁ e₂ : Expr} {apos pos : Pos} {p : Addr} {code : Array Nat} {r : Str} {next : Array Nat → Nat → Option (Nat × Nat)} {res : List Nat → List Nat} {Q : Value → List Ent → Prop} (hp : PatAt K.heap p code) (hr : r.cps.contains 92 = false)
    (hs : ∀ (l : List Nat) st must, st ≤ l.length → EndsIn 10000 (Sre.forSearch code l.toArray 0 st l.toArray.size must) (Got (next l.toArray st)) ∨ 1000 < l.length) (hnext : ∀ (l : List Nat) st b e, next l.toArray st = some (b, e) → st ≤ b ∧ b < e ∧ e ≤ l.length)
    (hres : ∀ l : List Nat, flat (pieces (mk l) r (next l.toArray) (l.length + 1) 0) = res l) (hlen : ∀ l : List Nat, (res l).length ≤ 2 * l.length)
    (hbase : attributeBase o "sub" env (eval o env) = eval o env)
    (hfew : ((backTo pos (starEach [e₁, e₂] env)).all (fun x => !x.1) && (backToKw pos (keywordEach [] env)).all (fun x => x.1.isSome)
      && decide (([e₁, e₂] : List Expr).length + ([] : List Keyword).length + (if ([] : List Keyword).isEmpty then 0 else 1) < 30)) = true)
    (hline : (apos.endLine == pos.line) = true)
    (he : starEach [e₁, e₂] env = (false, eval e₁ env) :: starEach [e₂] env) (he' : starEach [e₂] env = (false, eval e₂ env) :: starEach [] env)
    (h : WE prog w n mg mb K env nm oc (eval o env) F H fun a H₁ => a = .ref p ∧ WE prog w n mg mb K env nm oc (eval e₁ env) F H₁ fun b H₂ => b = S r ∧ WE prog w n mg mb K env nm oc (eval e₂ env) F H₂ fun c H₃ => ∃ l, c = S (mk l) ∧ l.length ≤ 500 ∧ Q (S (mk (res l))) H₃) :
    WE prog w n mg mb K env nm oc (eval (.Call (.Attribute o "sub" apos) [e₁, e₂] [] pos) env) F H Q := by
  refine we_Method hbase hfew hline plainAttrs_rePattern slot_rePattern_sub type_rePattern_sub (h.mono fun a H₁ z00 => z00.elim fun e q => ⟨fun P s st v hv => ?_, fun v hv => ?_⟩)
  · subst e
    cases hv
    obtain ⟨ob, fs, co, oc', items, k, h1, h2, h3, _⟩ := hp
    exact ⟨⟨ob, st.keep _ _ h1, h2⟩, fun b e => by cases e; exact ⟨ob, st.keep _ _ h1, h3⟩⟩
  · subst e
    cases hv
    refine we_with rfl he (by rw [he']; rfl) (wl_cons he (q.mono fun b H₂ z00 => z00.elim fun e q => wl_cons he' (q.mono fun c H₃ z00 => z00.elim fun l z00 => z00.elim fun e2 z00 => z00.elim fun hl q => wl_nil fun vs hv => ?_)))
    subst e e2
    cases hv with
    | cons h1 hv =>
      cases hv with
      | cons h2 hv =>
        cases hv
        obtain ⟨t1, rfl⟩ := h1
        obtain ⟨t2, rfl⟩ := h2
        intro A hA P s E R st hR
        have hsz : l.toArray.size = l.length := by simp
        have hfl : (((pieces (mk l) r (next l.toArray) (l.length + 1) 0)).map (·.length)).sum ≤ 16777216 := by
          rw [← flat_len, hres]
          have := hlen l
          omega
        refine call_sub (x := mk l) (next := next l.toArray) (N := 10000) (by rw [mk_length]; omega) (by decide) hr (fun st' must h => ?_) (fun st' b e h => ?_) (l.length + 1) (by show l.toArray.size < l.length + 1; omega) (by omega) (hp.keeps st.keep) hfl fun t' h' tk k => ?_
        · have h' : st' ≤ l.toArray.size := h
          rcases hs l st' must (by omega) with q | q
          · exact q
          · omega
        · obtain ⟨a, b, c⟩ := hnext l st' b e h
          exact ⟨a, b, by show e ≤ l.toArray.size; omega⟩
        · rw [join_flat, hres]
          exact hR _ _ _ _ (st.kept (s' := { s with heap := h', toks := tk }) k st.gens rfl) ⟨rfl, _, Vm.str, q⟩
end
theorem norm_len : ∀ (b : Bool) (l : List Nat), (norm b l).length ≤ 2 * l.length
  | _, [] => by simp [norm]
  | b, c :: r => by
    have h1 := norm_len false r
    have h2 := norm_len true r
    rw [norm_cons]
    split
    · simp; omega
    · split
      · simp; omega
      · split <;> simp <;> omega
theorem dots_len : ∀ (b : Bool) (l : List Nat), (dots b l).length ≤ 2 * l.length
  | _, [] => by simp [dots]
  | b, c :: r => by
    have h1 := dots_len false r
    have h2 := dots_len (c == 10) r
    rw [dots_cons]
    split <;> simp <;> omega
theorem next1_ok (l : List Nat) (st b e : Nat) (h : next1 l.toArray st = some (b, e)) : st ≤ b ∧ b < e ∧ e ≤ l.length := by
  unfold next1 at h
  cases hf : find1 l.toArray (l.toArray.size - st) st with
  | none => rw [hf] at h; cases h
  | some p =>
    rw [hf] at h
    cases h
    obtain ⟨a, _, c, _⟩ := find1_some _ _ _ hf
    unfold hit1 at c
    simp only [Bool.and_eq_true, decide_eq_true_eq, beq_iff_eq] at c
    have := c.2.1
    simp at this
    omega
theorem next2_ok (l : List Nat) (st b e : Nat) (h : next2 l.toArray st = some (b, e)) : st ≤ b ∧ b < e ∧ e ≤ l.length := by
  unfold next2 at h
  cases hf : find2 l.toArray (l.toArray.size + 1 - st) st with
  | none => rw [hf] at h; cases h
  | some p =>
    rw [hf] at h
    obtain ⟨a, c, _⟩ := find2_some _ _ _ hf
    have hsz : l.toArray.size = l.length := by simp
    simp only [Option.map_some, Option.some.injEq, Prod.mk.injEq] at h
    obtain ⟨rfl, h⟩ := h
    by_cases hc : l.toArray.getD p 0 = 13 ∧ p + 1 < l.toArray.size ∧ l.toArray.getD (p + 1) 0 = 10
    · rw [if_pos hc] at h
      have := hc.2.1
      omega
    · rw [if_neg hc] at h
      omega
section
variable {prog : Program} {w : World} {n : Nat} {mg mb : Str → Option Value} {K : Shared} {env : Env} {nm : List (Str × NameKind)} {oc : Bool} {F : List (Option Value)} {H : List Ent}
theorem we_subNorm {o e₁ e₂ : Expr} {apos pos : Pos} {p : Addr} {Q : Value → List Ent → Prop} (hp : PatAt K.heap p code2)
    (hbase : attributeBase o "sub" env (eval o env) = eval o env)
    (hfew : ((backTo pos (starEach [e₁, e₂] env)).all (fun x => !x.1) && (backToKw pos (keywordEach [] env)).all (fun x => x.1.isSome)
      && decide (([e₁, e₂] : List Expr).length + ([] : List Keyword).length + (if ([] : List Keyword).isEmpty then 0 else 1) < 30)) = true)
    (hline : (apos.endLine == pos.line) = true)
    (he : starEach [e₁, e₂] env = (false, eval e₁ env) :: starEach [e₂] env) (he' : starEach [e₂] env = (false, eval e₂ env) :: starEach [] env)
    (h : WE prog w n mg mb K env nm oc (eval o env) F H fun a H₁ => a = .ref p ∧ WE prog w n mg mb K env nm oc (eval e₁ env) F H₁ fun b H₂ => b = S (mk [13, 10]) ∧ WE prog w n mg mb K env nm oc (eval e₂ env) F H₂ fun c H₃ => ∃ l, c = S (mk l) ∧ l.length ≤ 500 ∧ Q (S (mk (norm false l))) H₃) :
    WE prog w n mg mb K env nm oc (eval (.Call (.Attribute o "sub" apos) [e₁, e₂] [] pos) env) F H Q :=
  we_resub (res := norm false) (next := next2) hp (by decide +kernel) (fun l st must h => .inl ((search2 (x := l.toArray) (s := st) (must := must) (by simpa using h)).le (by decide))) next2_ok
    (fun l => by rw [norm_pieces l (l.length + 1) 0 (by omega) (by omega)]; rfl) (norm_len false) hbase hfew hline he he' h
theorem we_subDots {o e₁ e₂ : Expr} {apos pos : Pos} {p : Addr} {Q : Value → List Ent → Prop} (hp : PatAt K.heap p code1)
    (hbase : attributeBase o "sub" env (eval o env) = eval o env)
    (hfew : ((backTo pos (starEach [e₁, e₂] env)).all (fun x => !x.1) && (backToKw pos (keywordEach [] env)).all (fun x => x.1.isSome)
      && decide (([e₁, e₂] : List Expr).length + ([] : List Keyword).length + (if ([] : List Keyword).isEmpty then 0 else 1) < 30)) = true)
    (hline : (apos.endLine == pos.line) = true)
    (he : starEach [e₁, e₂] env = (false, eval e₁ env) :: starEach [e₂] env) (he' : starEach [e₂] env = (false, eval e₂ env) :: starEach [] env)
    (h : WE prog w n mg mb K env nm oc (eval o env) F H fun a H₁ => a = .ref p ∧ WE prog w n mg mb K env nm oc (eval e₁ env) F H₁ fun b H₂ => b = S (mk [46, 46]) ∧ WE prog w n mg mb K env nm oc (eval e₂ env) F H₂ fun c H₃ => ∃ l, c = S (mk l) ∧ l.length ≤ 500 ∧ Q (S (mk (dots true l))) H₃) :
    WE prog w n mg mb K env nm oc (eval (.Call (.Attribute o "sub" apos) [e₁, e₂] [] pos) env) F H Q :=
  we_resub (res := dots true) (next := next1) hp (by decide +kernel) (fun l st must h => by
      by_cases hl : 1000 < l.length
      · exact .inr hl
      · refine .inl ((search1 (x := l.toArray) (s := st) (must := must) (by simpa using h)).le ?_)
        have : l.toArray.size = l.length := by simp
        omega) next1_ok
    (fun l => by rw [dots_pieces l (l.length + 1) 0 (by omega) (by omega)]; rfl) (dots_len true) hbase hfew hline he he' h
end
end Mine
end

section
open PySem PySem.W PyProof.Rows
set_option Elab.async false
set_option linter.unusedVariables false
set_option maxRecDepth 100000
set_option maxHeartbeats 0
namespace Mine
local macro_rules | `(tactic| kln_le) => `(tactic| first
  | refine we_name 0 rfl rfl (by decide) ?_ rfl rfl | refine we_name 1 rfl rfl (by decide) ?_ rfl rfl | refine we_name 2 rfl rfl (by decide) ?_ rfl rfl | refine we_name 3 rfl rfl (by decide) ?_ rfl rfl
  | refine we_name 4 rfl rfl (by decide) ?_ rfl rfl | refine we_name 5 rfl rfl (by decide) ?_ rfl rfl | refine we_name 6 rfl rfl (by decide) ?_ rfl rfl | refine we_name 7 rfl rfl (by decide) ?_ rfl rfl
  | refine we_name 8 rfl rfl (by decide) ?_ rfl rfl | refine we_name 9 rfl rfl (by decide) ?_ rfl rfl | refine we_name 10 rfl rfl (by decide) ?_ rfl rfl | refine we_name 11 rfl rfl (by decide) ?_ rfl rfl
  | refine we_name 12 rfl rfl (by decide) ?_ rfl rfl | refine we_name 13 rfl rfl (by decide) ?_ rfl rfl)

noncomputable abbrev nmQuo : List (Str × NameKind) := [("data", .local), ("_twin_re_1", .globalImplicit), ("_twin_re_2", .globalImplicit), ("CRLF", .globalImplicit)]
/-- a mail as it is sent -/
noncomputable def quote (l : List Nat) : List Nat := dots true (norm false l)
theorem fx_quo {w : World} {mg mb : Str → Option Value} {s : Shared} {A : List Nat} {n : Nat} {fq p1 p2 : Addr} (gb : GB mg mb s.heap) (hg : s.gens = #[]) (hf : FnAtX s.heap fq "quotedata" (fnP 11) (fnB 11) (fnS 11))
    (h1 : mg "_twin_re_1" = some (.ref p1)) (h2 : mg "_twin_re_2" = some (.ref p2)) (h3 : ∃ t, mg "CRLF" = some (.str (mk [13, 10]) t)) (q1 : PatAt s.heap p1 code1) (q2 : PatAt s.heap p2 code2) (hA : A.length ≤ 200) :
    FX pw w (n + 4) fq [S (mk A)] s fun v H => H = [] ∧ v = S (mk (quote A)) := by
  refine fx_body (nm := nmQuo) (ps := ["data"]) (par := [some 0, none, none, none]) hf gb hg rfl rfl rfl rfl (by decide) (fun pm cd doc vs hv => ?_) rfl (by decide) (by decide) fun env => ?_
  · obtain ⟨x, rfl⟩ := len1 hv
    kernel_rfl
  refine ws_cons (ws_Return (we_subDots q1 rfl rfl rfl rfl rfl (we_glob 1 rfl h1 ⟨rfl, we_str ⟨by kernel_rfl, we_subNorm q2 rfl rfl rfl rfl rfl (we_glob 2 rfl h2 ⟨rfl, we_globS 3 rfl h3 ⟨rfl, ?_⟩ rfl⟩ rfl)⟩⟩ rfl)))
  kln_le
  have := norm_len false A
  exact ⟨A, rfl, by omega, norm false A, rfl, by omega, rfl, rfl⟩
end Mine
end

section
open PySem PySem.W PyProof.Rows
set_option Elab.async false
set_option linter.unusedVariables false
set_option maxRecDepth 100000
set_option maxHeartbeats 0
namespace Mine
local macro_rules | `(tactic| kln_le) => `(tactic| first
  | refine we_name 0 rfl rfl (by decide) ?_ rfl rfl | refine we_name 1 rfl rfl (by decide) ?_ rfl rfl | refine we_name 2 rfl rfl (by decide) ?_ rfl rfl | refine we_name 3 rfl rfl (by decide) ?_ rfl rfl
  | refine we_name 4 rfl rfl (by decide) ?_ rfl rfl | refine we_name 5 rfl rfl (by decide) ?_ rfl rfl | refine we_name 6 rfl rfl (by decide) ?_ rfl rfl | refine we_name 7 rfl rfl (by decide) ?_ rfl rfl
  | refine we_name 8 rfl rfl (by decide) ?_ rfl rfl | refine we_name 9 rfl rfl (by decide) ?_ rfl rfl | refine we_name 10 rfl rfl (by decide) ?_ rfl rfl | refine we_name 11 rfl rfl (by decide) ?_ rfl rfl
  | refine we_name 12 rfl rfl (by decide) ?_ rfl rfl | refine we_name 13 rfl rfl (by decide) ?_ rfl rfl)

noncomputable abbrev nmB1 : List (Str × NameKind) := [("code", .local), ("ord", .globalImplicit), ("b1_set", .globalImplicit)]
noncomputable abbrev nmB3 : List (Str × NameKind) := [("code", .local), ("r", .local), ("b3_exceptions", .globalImplicit), ("ord", .globalImplicit)]
theorem fx_b1 {w : World} {mg mb : Str → Option Value} {s : Shared} {c : Nat} {n : Nat} {fq aS : Addr} {Sx : Int → Bool} {kS : Nat} (gb : GB mg mb s.heap) (hg : s.gens = #[]) (hf : FnAtX s.heap fq "in_table_b1" (fnP 14) (fnB 14) (fnS 14))
    (h1 : mg "ord" = none) (h2 : mb "ord" = some (.builtin "ord")) (h3 : mg "b1_set" = some (.ref aS)) (hS : ∀ s' : Shared, (∀ b o, s.heap.get? b = some o → s'.heap.get? b = some o) → s'.heap.SetOf (intKind pw w) aS Sx kS) :
    FX pw w (n + 4) fq [S ⟨#[c]⟩] s fun v H => H = [] ∧ v = .bool (Sx (c : Nat)) := by
  refine fx_body (nm := nmB1) (ps := ["code"]) (par := [some 0, none, none]) hf gb hg rfl rfl rfl rfl (by decide) (fun pm cd doc vs hv => ?_) rfl (by decide) (by decide) fun env => ?_
  · obtain ⟨x, rfl⟩ := len1 hv
    kernel_rfl
  refine ws_cons (ws_Return (we_Compare (we_call1 1 rfl h1 h2 rfl rfl ?_) rfl))
  kln_le
  exact wc_ord rfl (we_glob 2 rfl h3 (wc_inSet hS ⟨rfl, rfl⟩) rfl)

/-- a sign folded -/
noncomputable def foldS (b3 : Int → Option Str) (c : Nat) : Str := match b3 c with | some x => x | none => low1 c
theorem fx_b3 {w : World} {mg mb : Str → Option Value} {s : Shared} {c : Nat} {n : Nat} {fq aD : Addr} {b3 : Int → Option Str} {f : Int → Option Value} (gb : GB mg mb s.heap) (hg : s.gens = #[]) (hf : FnAtX s.heap fq "map_table_b3" (fnP 16) (fnB 16) (fnS 16))
    (h1 : mg "ord" = none) (h2 : mb "ord" = some (.builtin "ord")) (h3 : mg "b3_exceptions" = some (.ref aD)) (hd : (aD == sysModules) = false) (ho : ∃ ob, s.heap.get? aD = some ob ∧ ob.cls = .type "dict" ∧ ob.dict = none)
    (hM : ∀ s' : Shared, (∀ b o, s.heap.get? b = some o → s'.heap.get? b = some o) → s'.heap.MapOf (intKind pw w) aD f) (hf3 : ∀ i, Vm (match b3 i with | some x => S x | none => .none) ((f i).getD .none)) :
    FX pw w (n + 4) fq [S ⟨#[c]⟩] s fun v H => H = [] ∧ v = S (foldS b3 c) := by
  refine fx_body (nm := nmB3) (ps := ["code"]) (par := [some 0, none, none, none]) hf gb hg rfl rfl rfl rfl (by decide) (fun pm cd doc vs hv => ?_) rfl (by decide) (by decide) fun env => ?_
  · obtain ⟨x, rfl⟩ := len1 hv
    kernel_rfl
  refine ws_cons (ws_Assign rfl (we_Method rfl rfl rfl PySem.F.plainAttrs_dict PySem.F.slot_dict_get PySem.F.type_dict_get (we_glob 2 rfl h3 ⟨fun P s' st v hv => ?_, fun v hv => ?_⟩ rfl)))
  · cases hv
    obtain ⟨ob, q1, q2, q3⟩ := ho
    exact ⟨⟨ob, st.keep _ _ q1, q2⟩, fun b e => by cases e; exact ⟨ob, st.keep _ _ q1, q3⟩⟩
  refine we_dictGet (i := (c : Nat)) (a := match b3 c with | some x => S x | none => .none) hv hd hM rfl (we_call1 3 rfl h1 h2 rfl rfl ?_)
  kln_le
  refine wc_ord rfl ⟨rfl, hf3 _, wn_local 1 rfl ?_⟩
  unfold foldS
  cases b3 (c : Nat) with
  | some x =>
    dsimp only
    refine ws_cons (ws_If (wt_Compare ?_ rfl))
    kln_le
    refine we_none (wc_isNotNone rfl ⟨_, rfl, ?_⟩)
    refine ws_cons (ws_Return ?_)
    kln_le
    exact ⟨rfl, rfl⟩
  | none =>
    dsimp only
    refine ws_cons (ws_If (wt_Compare ?_ rfl))
    kln_le
    refine we_none (wc_isNotNone' ⟨_, rfl, ?_⟩)
    refine ws_nil (ws_cons (ws_Return (we_lower0 rfl rfl rfl ?_)))
    kln_le
    exact ⟨_, _, rfl, low_len _ (by show 1 ≤ 1000; decide), rfl, rfl⟩
end Mine
end

section
open PySem PySem.W PyProof.Rows
set_option Elab.async false
set_option linter.unusedVariables false
set_option maxRecDepth 100000
namespace Mine
theorem WE.drop {prog : Program} {w : World} {n : Nat} {mg mb : Str → Option Value} {K : Shared} {env : Env} {nm : List (Str × NameKind)} {oc : Bool} {F : List (Option Value)} {H : List Ent} {m : Sem Value} {Q Q' : Value → List Ent → Prop}
    (h : WE prog w n mg mb K env nm oc m F H Q) (q : ∀ a H', Q a H' → ∃ H'', H''.Sublist H' ∧ Q' a H'') : WE prog w n mg mb K env nm oc m F H Q' :=
  WX.weaken h fun r F' H' z00 => z00.elim fun e z00 => z00.elim fun a z00 => z00.elim fun v x => by
    obtain ⟨H'', s, q'⟩ := q a H' x
    exact ⟨F', H'', SubL.refl _, s, e, a, v, q'⟩
noncomputable def flatS (g : Nat → Str) (l : List Nat) : List Nat := l.flatMap fun c => (g c).cps.toList
theorem flatS_flat (g : Nat → Str) (l : List Nat) : flat (l.map g) = flatS g l := by
  unfold flat flatS
  rw [List.flatMap_map]
section
variable {prog : Program} {w : World} {n : Nat} {mg mb : Str → Option Value} {K : Shared} {env : Env} {nm : List (Str × NameKind)} {oc : Bool} {F : List (Option Value)} {H : List Ent}
theorem signs_mk (l : List Nat) : signs (mk l) = l.map fun c => S ⟨#[c]⟩ := by
  unfold signs
  rw [mk_toList]
/-- ''.join(xs) -/
theorem we_joinList {k : Nat} {cp apos pos : Pos} {e : Expr} {Q : Value → List Ent → Prop}
    (hfew : ((backTo pos (starEach [e] env)).all (fun x => !x.1) && (backToKw pos (keywordEach [] env)).all (fun x => x.1.isSome)
      && decide (([e] : List Expr).length + ([] : List Keyword).length + (if ([] : List Keyword).isEmpty then 0 else 1) < 30)) = true)
    (hline : (apos.endLine == pos.line) = true) (he : starEach [e] env = (false, eval e env) :: starEach [] env)
    (h : WE prog w n mg mb K env nm oc (eval e env) F H fun a H₁ => ∃ D ys, a = .ref D ∧ H₁ = H ++ [(D, ys.map S)] ∧ (flat ys).length ≤ 10000 ∧ Q (S (mk (flat ys))) H) :
    WE prog w n mg mb K env nm oc (eval (.Call (.Attribute (.Constant (.str Str.empty) k cp) "join" apos) [e] [] pos) env) F H Q := by
  refine WE.drop (Q := fun v H' => ∃ D ys, v = S (mk (flat ys)) ∧ H' = H ++ [(D, ys.map S)] ∧ Q (S (mk (flat ys))) H) ?_ fun a H' z00 => z00.elim fun D z00 => z00.elim fun ys z00 => z00.elim fun e1 z00 => z00.elim fun e2 q => ⟨H, by rw [e2]; exact List.sublist_append_left _ _, by rw [e1]; exact q⟩
  refine we_Method rfl hfew hline PySem.F.plainAttrs_str PySem.F.slot_str_join PySem.F.type_str_join (we_str ⟨fun P s st v hv => ?_, fun v hv => ?_⟩)
  · obtain ⟨u, rfl⟩ := hv
    exact ⟨rfl, fun b e => nomatch e⟩
  · refine we_with rfl he rfl (wl_cons he (h.mono fun a H₁ z00 => z00.elim fun D z00 => z00.elim fun ys z00 => z00.elim fun e1 z00 => z00.elim fun e2 z00 => z00.elim fun hl q => wl_nil fun vs hvs => ?_))
    subst e1 e2
    have := we_join (prog := prog) (w := w) (n := n) (mg := mg) (mb := mb) (K := K) (env := env) (nm := nm) (oc := oc) (F := F) (H := H ++ [(D, ys.map S)]) (sep := Str.empty) (v := v) (vs := vs) (l := D) (ys := ys)
      (Q := fun v H' => ∃ D ys, v = S (mk (flat ys)) ∧ H' = H ++ [(D, ys.map S)] ∧ Q (S (mk (flat ys))) H) hv hvs (.inl (by simp)) (by
        rw [← flat_len]
        have : Str.empty.length = 0 := rfl
        rw [this]
        omega) ⟨D, ys, by rw [join_flat], rfl, q⟩
    exact this

/-- ''.join([elt for x in text]) -/
theorem we_joinMap {k : Nat} {cp apos pos cpos px : Pos} {elt iter : Expr} {x : Str} {scope : Scope} {nm' : List (Str × NameKind)} {oc' : Bool} {cap : List (Option Nat)} {ix : Nat} {l : List Nat} {g : Nat → Str} {Q : Value → List Ent → Prop}
    (C : CompOk nm scope nm' oc' cap ix x) (hl : l.length ≤ 200)
    (hfew : ((backTo pos (starEach [Expr.ListComp elt [⟨.Name x px, iter, [], 0⟩] scope cpos] env)).all (fun x => !x.1) && (backToKw pos (keywordEach [] env)).all (fun x => x.1.isSome)
      && decide (([Expr.ListComp elt [⟨.Name x px, iter, [], 0⟩] scope cpos] : List Expr).length + ([] : List Keyword).length + (if ([] : List Keyword).isEmpty then 0 else 1) < 30)) = true)
    (hline : (apos.endLine == pos.line) = true) (hs : ∀ x, foldedSetIterable iter env x = pure x)
    (hit : WE prog w n mg mb K env nm oc (eval iter env) F H fun v H₁ => v = S (mk l) ∧ H₁ = H)
    (turn : ∀ cenv c, c ∈ l → WE prog w n mg mb K cenv nm' oc' (eval elt cenv) ((capF F cap).set ix (some (S ⟨#[c]⟩))) H fun v H' => v = S (g c) ∧ H' = H)
    (hlen : (flatS g l).length ≤ 10000) (h : Q (S (mk (flatS g l))) H) :
    WE prog w n mg mb K env nm oc (eval (.Call (.Attribute (.Constant (.str Str.empty) k cp) "join" apos) [.ListComp elt [⟨.Name x px, iter, [], 0⟩] scope cpos] [] pos) env) F H Q := by
  refine we_joinList hfew hline rfl (we_Comp (xs := signs (mk l)) C (by rw [signs_mk, List.length_map, sizeLine_eq]; omega) (fun i ys H₁ => H₁ = H ∧ i ≤ l.length ∧ ys = ((l.take i).map g).map S) (fun ys H₁ B => H₁ = H ∧ B = [] ∧ ys = (l.map g).map S) ?_ ?_ ?_ ?_ hs)
  · refine wi_str (hit.mono fun v H₁ z00 => z00.elim fun e1 e2 => ⟨e1, ⟨e2, Nat.zero_le _, rfl⟩, fun ys H₂ z00 => z00.elim fun q1 z00 => z00.elim fun _ q2 => ⟨q1, rfl, ?_⟩⟩)
    rw [q2, signs_mk, List.length_map, List.take_length]
  · rintro cenv i ys _ a ⟨rfl, hi, rfl⟩ ha
    rw [signs_mk, List.getElem?_map] at ha
    obtain ⟨c, hc, rfl⟩ := Option.map_eq_some_iff.mp ha
    obtain ⟨hlt, hget⟩ := List.getElem?_eq_some_iff.mp hc
    refine wx_noTest ⟨rfl, ?_⟩
    rw [if_pos rfl]
    refine (turn cenv c (List.mem_of_getElem? hc)).mono fun v H' z00 => z00.elim fun e1 e2 => ⟨e2, hlt, ?_⟩
    subst e1
    rw [List.take_succ_eq_append_getElem hlt, hget]
    simp
  · rintro i ys _ ⟨rfl, hi, rfl⟩
    simp
    omega
  · rintro ys _ _ D ⟨rfl, rfl, rfl⟩
    exact ⟨D, l.map g, rfl, by simp, by rw [flatS_flat]; exact hlen, by rw [flatS_flat]; exact h⟩
/-- ''.join([x for x in text if test]) -/
theorem we_joinFilter {k : Nat} {cp apos pos cpos px pe : Pos} {iter test : Expr} {x : Str} {scope : Scope} {nm' : List (Str × NameKind)} {oc' : Bool} {cap : List (Option Nat)} {ix : Nat} {l : List Nat} {p : Nat → Bool} {Q : Value → List Ent → Prop}
    (C : CompOk nm scope nm' oc' cap ix x) (hl : l.length ≤ 200)
    (hfew : ((backTo pos (starEach [Expr.ListComp (.Name x pe) [⟨.Name x px, iter, [test], 0⟩] scope cpos] env)).all (fun x => !x.1) && (backToKw pos (keywordEach [] env)).all (fun x => x.1.isSome)
      && decide (([Expr.ListComp (.Name x pe) [⟨.Name x px, iter, [test], 0⟩] scope cpos] : List Expr).length + ([] : List Keyword).length + (if ([] : List Keyword).isEmpty then 0 else 1) < 30)) = true)
    (hline : (apos.endLine == pos.line) = true) (hs : ∀ x, foldedSetIterable iter env x = pure x)
    (hit : WE prog w n mg mb K env nm oc (eval iter env) F H fun v H₁ => v = S (mk l) ∧ H₁ = H)
    (turn : ∀ cenv c, c ∈ l → WT prog w n mg mb K cenv nm' oc' (isTrue test cenv (eval test cenv)) ((capF F cap).set ix (some (S ⟨#[c]⟩))) H fun b H' => b = p c ∧ H' = H)
    (helt : ∀ cenv c, WE prog w n mg mb K cenv nm' oc' (eval (.Name x pe) cenv) ((capF F cap).set ix (some (S ⟨#[c]⟩))) H fun v H' => v = S ⟨#[c]⟩ ∧ H' = H)
    (h : Q (S (mk (l.filter p))) H) :
    WE prog w n mg mb K env nm oc (eval (.Call (.Attribute (.Constant (.str Str.empty) k cp) "join" apos) [.ListComp (.Name x pe) [⟨.Name x px, iter, [test], 0⟩] scope cpos] [] pos) env) F H Q := by
  have hfl : ∀ l : List Nat, flat (l.map fun c => (⟨#[c]⟩ : Str)) = l := by
    intro l
    unfold flat
    rw [List.flatMap_map]
    induction l with
    | nil => rfl
    | cons a r ih => rw [List.flatMap_cons, ih]; rfl
  refine we_joinList hfew hline rfl (we_Comp (xs := signs (mk l)) C (by rw [signs_mk, List.length_map, sizeLine_eq]; omega) (fun i ys H₁ => H₁ = H ∧ i ≤ l.length ∧ ys = (((l.take i).filter p).map fun c => (⟨#[c]⟩ : Str)).map S)
    (fun ys H₁ B => H₁ = H ∧ B = [] ∧ ys = ((l.filter p).map fun c => (⟨#[c]⟩ : Str)).map S) ?_ ?_ ?_ ?_ hs)
  · refine wi_str (hit.mono fun v H₁ z00 => z00.elim fun e1 e2 => ⟨e1, ⟨e2, Nat.zero_le _, rfl⟩, fun ys H₂ z00 => z00.elim fun q1 z00 => z00.elim fun _ q2 => ⟨q1, rfl, ?_⟩⟩)
    rw [q2, signs_mk, List.length_map, List.take_length]
  · rintro cenv i ys _ a ⟨rfl, hi, rfl⟩ ha
    rw [signs_mk, List.getElem?_map] at ha
    obtain ⟨c, hc, rfl⟩ := Option.map_eq_some_iff.mp ha
    obtain ⟨hlt, hget⟩ := List.getElem?_eq_some_iff.mp hc
    refine wx_oneTest ((turn cenv c (List.mem_of_getElem? hc)).mono fun b H' z00 => z00.elim fun e1 e2 => ⟨rfl, ?_⟩)
    subst e1 e2
    cases hp : p c with
    | true =>
      rw [if_pos rfl]
      refine (helt cenv c).mono fun v H' z00 => z00.elim fun e1 e2 => ⟨e2, hlt, ?_⟩
      subst e1
      rw [List.take_succ_eq_append_getElem hlt, hget, List.filter_append]
      simp [hp]
    | false =>
      rw [if_neg (by decide)]
      refine ⟨rfl, hlt, ?_⟩
      rw [List.take_succ_eq_append_getElem hlt, hget, List.filter_append]
      simp [hp]
  · rintro i ys _ ⟨rfl, hi, rfl⟩
    simp only [List.length_map]
    have := List.length_filter_le p (l.take i)
    rw [List.length_take] at this
    omega
  · rintro ys _ _ D ⟨rfl, rfl, rfl⟩
    refine ⟨D, (l.filter p).map fun c => ⟨#[c]⟩, rfl, by simp, ?_, ?_⟩
    · rw [hfl]
      have := List.length_filter_le p l
      omega
    · rw [hfl]
      exact h
end
end Mine
end

section
open PySem PySem.W PyProof.Rows
set_option Elab.async false
set_option linter.unusedVariables false
set_option maxRecDepth 100000
set_option maxHeartbeats 0
namespace Mine
/-- the module as it stands when law is called -/
structure Base (w : World) (mg mb : Str → Option Value) (b3 : Int → Option Str) (hid : Int → Bool) (s : Shared) : Prop where
  gb : GB mg mb s.heap
  N : Names mg mb
  fsub : FnAtX s.heap 38 "_substitution_cost" (fnP 5) (fnB 5) (fnS 5)
  flev : FnAtX s.heap 45 "_levenshtein_distance" (fnP 6) (fnB 6) (fnS 6)
  fquo : FnAtX s.heap 62 "quotedata" (fnP 11) (fnB 11) (fnS 11)
  fb1 : FnAtX s.heap 80 "in_table_b1" (fnP 14) (fnB 14) (fnS 14)
  fb3 : FnAtX s.heap 126 "map_table_b3" (fnP 16) (fnB 16) (fnS 16)
  mlev : mg "_levenshtein_distance" = some (.ref 45)
  mquo : mg "quotedata" = some (.ref 62)
  mb1 : mg "in_table_b1" = some (.ref 80)
  mb3 : mg "map_table_b3" = some (.ref 126)
  re1 : mg "_twin_re_1" = some (.ref 50)
  re2 : mg "_twin_re_2" = some (.ref 55)
  p1 : PatAt s.heap 50 code1
  p2 : PatAt s.heap 55 code2
  crlf : ∃ t, mg "CRLF" = some (.str (mk [13, 10]) t)
  nord : mg "ord" = none
  ord : mb "ord" = some (.builtin "ord")
  nchr : mg "chr" = none
  chr : mb "chr" = some (.builtin "chr")
  nsum : mg "sum" = none
  sum : mb "sum" = some (.builtin "sum")
  nenum : mg "enumerate" = none
  enum : mb "enumerate" = some (.type "enumerate")
  mset : mg "b1_set" = some (.ref 70)
  set : ∃ kS, ∀ s' : Shared, (∀ b o, s.heap.get? b = some o → s'.heap.get? b = some o) → s'.heap.SetOf (intKind pw w) 70 hid kS
  mmap : mg "b3_exceptions" = some (.ref 81)
  dict : ∃ ob, s.heap.get? 81 = some ob ∧ ob.cls = .type "dict" ∧ ob.dict = none
  map : ∃ f, (∀ s' : Shared, (∀ b o, s.heap.get? b = some o → s'.heap.get? b = some o) → s'.heap.MapOf (intKind pw w) 81 f) ∧ ∀ i, Vm (match b3 i with | some x => S x | none => .none) ((f i).getD .none)
theorem Base.keeps {w : World} {mg mb : Str → Option Value} {b3 : Int → Option Str} {hid : Int → Bool} {s s' : Shared} (B : Base w mg mb b3 hid s) (k : ∀ b o, s.heap.get? b = some o → s'.heap.get? b = some o) (hs : s.heap.objs.size ≤ s'.heap.objs.size) : Base w mg mb b3 hid s' := by
  obtain ⟨kS, hset⟩ := B.set
  obtain ⟨ob, o1, o2⟩ := B.dict
  obtain ⟨f, m1, m2⟩ := B.map
  exact ⟨B.gb.keeps k hs, B.N, B.fsub.keeps k, B.flev.keeps k, B.fquo.keeps k, B.fb1.keeps k, B.fb3.keeps k, B.mlev, B.mquo, B.mb1, B.mb3, B.re1, B.re2, B.p1.keeps k, B.p2.keeps k, B.crlf, B.nord, B.ord, B.nchr, B.chr, B.nsum, B.sum, B.nenum, B.enum, B.mset,
    ⟨kS, fun s'' k' => hset s'' fun b o e => k' b o (k b o e)⟩, B.mmap, ⟨ob, k _ _ o1, o2⟩, f, fun s'' k' => m1 s'' fun b o e => k' b o (k b o e), m2⟩
theorem FnAtX.fn {h : Heap} {f : Addr} {name : Str} {params : Arguments} {body : List Stmt} {scope : Scope} (x : FnAtX h f name params body scope) : ∃ o fd, h.get? f = some o ∧ o.data = .func fd := by
  obtain ⟨o, pm, cd, doc, a, b, _⟩ := x
  exact ⟨o, _, a, b⟩
section
variable {w : World} {n : Nat} {mg mb : Str → Option Value} {K : Shared} {env : Env} {nm : List (Str × NameKind)} {oc : Bool} {F : List (Option Value)} {H : List Ent} {b3 : Int → Option Str} {hid : Int → Bool}
theorem St.base {P : List (Addr × Obj)} {s : Shared} (st : St mg mb K P env nm oc F H s) (B : Base w mg mb b3 hid K) : Base w mg mb b3 hid s := B.keeps st.keep st.size
/-- calls of the module's defs, by their names -/
theorem we_b3 {p pos : Pos} {e : Expr} {Q : Value → List Ent → Prop} (B : Base w mg mb b3 hid K) (j : Nat) (hj : nm[j]? = some (("map_table_b3" : Str), NameKind.globalImplicit)) (he : starEach [e] env = (false, eval e env) :: starEach [] env)
    (h : WE pw w (n + 4) mg mb K env nm oc (eval e env) F H fun a H₁ => ∃ c, a = S ⟨#[c]⟩ ∧ Q (S (foldS b3 c)) H₁) : WE pw w (n + 4) mg mb K env nm oc (eval (.Call (.Name "map_table_b3" p) [e] [] pos) env) F H Q := by
  refine we_Call (we_glob j hj B.mb3 (fun f' hf' => ?_) (by decide))
  cases hf'
  refine we_fn (m := n + 4) (Nat.le_refl _) he rfl B.fb3.fn (wl_cons he (h.mono fun a H₁ z00 => z00.elim fun c z00 => z00.elim fun e1 q => wl_nil fun s z00 => z00.elim fun P st => ?_))
  subst e1
  have B' := st.base B
  obtain ⟨f, m1, m2⟩ := B'.map
  refine (fx_b3 (n := n) (b3 := b3) (f := f) B'.gb st.gens B'.fb3 B'.nord B'.ord B'.mmap rfl B'.dict m1 m2).mono (fun v H' z00 => z00.elim fun e1 e2 => ?_) (Nat.le_refl _)
  subst e1 e2
  rw [List.append_nil]
  exact q
theorem we_b1 {p pos : Pos} {e : Expr} {Q : Value → List Ent → Prop} (B : Base w mg mb b3 hid K) (j : Nat) (hj : nm[j]? = some (("in_table_b1" : Str), NameKind.globalImplicit)) (he : starEach [e] env = (false, eval e env) :: starEach [] env)
    (h : WE pw w (n + 4) mg mb K env nm oc (eval e env) F H fun a H₁ => ∃ c : Nat, a = S ⟨#[c]⟩ ∧ Q (.bool (hid c)) H₁) : WE pw w (n + 4) mg mb K env nm oc (eval (.Call (.Name "in_table_b1" p) [e] [] pos) env) F H Q := by
  refine we_Call (we_glob j hj B.mb1 (fun f' hf' => ?_) (by decide))
  cases hf'
  refine we_fn (m := n + 4) (Nat.le_refl _) he rfl B.fb1.fn (wl_cons he (h.mono fun a H₁ z00 => z00.elim fun c z00 => z00.elim fun e1 q => wl_nil fun s z00 => z00.elim fun P st => ?_))
  subst e1
  have B' := st.base B
  obtain ⟨kS, hS⟩ := B'.set
  refine (fx_b1 (n := n) (Sx := hid) (kS := kS) B'.gb st.gens B'.fb1 B'.nord B'.ord B'.mset hS).mono (fun v H' z00 => z00.elim fun e1 e2 => ?_) (Nat.le_refl _)
  subst e1 e2
  rw [List.append_nil]
  exact q
theorem we_quo {p pos : Pos} {e : Expr} {Q : Value → List Ent → Prop} (B : Base w mg mb b3 hid K) (j : Nat) (hj : nm[j]? = some (("quotedata" : Str), NameKind.globalImplicit)) (he : starEach [e] env = (false, eval e env) :: starEach [] env)
    (h : WE pw w (n + 4) mg mb K env nm oc (eval e env) F H fun a H₁ => ∃ l, a = S (mk l) ∧ l.length ≤ 200 ∧ Q (S (mk (quote l))) H₁) : WE pw w (n + 4) mg mb K env nm oc (eval (.Call (.Name "quotedata" p) [e] [] pos) env) F H Q := by
  refine we_Call (we_glob j hj B.mquo (fun f' hf' => ?_) (by decide))
  cases hf'
  refine we_fn (m := n + 4) (Nat.le_refl _) he rfl B.fquo.fn (wl_cons he (h.mono fun a H₁ z00 => z00.elim fun l z00 => z00.elim fun e1 z00 => z00.elim fun hl q => wl_nil fun s z00 => z00.elim fun P st => ?_))
  subst e1
  have B' := st.base B
  refine (fx_quo (n := n) B'.gb st.gens B'.fquo B'.re1 B'.re2 B'.crlf B'.p1 B'.p2 hl).mono (fun v H' z00 => z00.elim fun e1 e2 => ?_) (Nat.le_refl _)
  subst e1 e2
  rw [List.append_nil]
  exact q
theorem we_lev {p pos : Pos} {e1 e2 e3 : Expr} {Q : Value → List Ent → Prop} (B : Base w mg mb b3 hid K) (j : Nat) (hj : nm[j]? = some (("_levenshtein_distance" : Str), NameKind.globalImplicit)) (he1 : starEach [e1, e2, e3] env = (false, eval e1 env) :: starEach [e2, e3] env)
    (he2 : starEach [e2, e3] env = (false, eval e2 env) :: starEach [e3] env) (he3 : starEach [e3] env = (false, eval e3 env) :: starEach [] env)
    (h : WE pw w (n + 9) mg mb K env nm oc (eval e1 env) F H fun a H₁ => WE pw w (n + 9) mg mb K env nm oc (eval e2 env) F H₁ fun b H₂ => WE pw w (n + 9) mg mb K env nm oc (eval e3 env) F H₂ fun c H₃ =>
      ∃ l l' i, a = S (mk l) ∧ b = S (mk l') ∧ c = I i ∧ l.length ≤ 200 ∧ l'.length ≤ 200 ∧ Q (I (lev subCost i l l')) H₃) : WE pw w (n + 9) mg mb K env nm oc (eval (.Call (.Name "_levenshtein_distance" p) [e1, e2, e3] [] pos) env) F H Q := by
  refine we_Call (we_glob j hj B.mlev (fun f' hf' => ?_) (by decide))
  cases hf'
  refine we_fn (m := n + 9) (Nat.le_refl _) he1 (by rw [he2, he3]; rfl) B.flev.fn (wl_cons he1 (h.mono fun a H₁ q => wl_cons he2 (q.mono fun b H₂ q => wl_cons he3 (q.mono fun c H₃ z00 => z00.elim fun l z00 => z00.elim fun l' z00 => z00.elim fun i z00 => z00.elim fun e1 z00 => z00.elim fun e2 z00 => z00.elim fun e3 z00 => z00.elim fun h1 z00 => z00.elim fun h2 hq => wl_nil fun s z00 => z00.elim fun P st => ?_))))
  subst e1 e2 e3
  have B' := st.base B
  refine (fx_lev (n := n) B'.gb st.gens B'.flev B'.fsub B'.N h1 h2).mono (fun v H' z00 => z00.elim fun e1 e2 => ?_) (Nat.le_refl _)
  subst e1 e2
  rw [List.append_nil]
  exact hq
end
end Mine
end

section
open PySem PySem.W PyProof.Rows
set_option Elab.async false
set_option linter.unusedVariables false
set_option maxRecDepth 100000
set_option maxHeartbeats 0
namespace Mine
local macro_rules | `(tactic| kln_le) => `(tactic| first
  | refine we_name 0 rfl rfl (by decide) ?_ rfl rfl | refine we_name 1 rfl rfl (by decide) ?_ rfl rfl | refine we_name 2 rfl rfl (by decide) ?_ rfl rfl | refine we_name 3 rfl rfl (by decide) ?_ rfl rfl
  | refine we_name 4 rfl rfl (by decide) ?_ rfl rfl | refine we_name 5 rfl rfl (by decide) ?_ rfl rfl | refine we_name 6 rfl rfl (by decide) ?_ rfl rfl | refine we_name 7 rfl rfl (by decide) ?_ rfl rfl
  | refine we_name 8 rfl rfl (by decide) ?_ rfl rfl | refine we_name 9 rfl rfl (by decide) ?_ rfl rfl | refine we_name 10 rfl rfl (by decide) ?_ rfl rfl | refine we_name 11 rfl rfl (by decide) ?_ rfl rfl
  | refine we_name 12 rfl rfl (by decide) ?_ rfl rfl | refine we_name 13 rfl rfl (by decide) ?_ rfl rfl)

noncomputable abbrev nmMail : List (Str × NameKind) := [("text", .local), ("number", .local), ("knot", .cell), ("big", .cell), ("step", .local), ("deed", .local), ("range", .globalImplicit), ("quotedata", .globalImplicit)]
noncomputable def foldAt (b3 : Int → Option Str) (k c : Nat) : Str := if c = k then foldS b3 c else ⟨#[c]⟩
/-- a deed done -/
noncomputable def deedOn (b3 : Int → Option Str) (hid : Int → Bool) (kn bg d : Nat) (t : List Nat) : List Nat :=
  if d = 0 then quote t else if d = 1 then flatS (foldAt b3 kn) t else if d = 2 then t.filter (fun c => !hid (c : Nat)) else flatS (foldAt b3 bg) t
noncomputable def mailStep (b3 : Int → Option Str) (hid : Int → Bool) (kn bg num i : Nat) (t : List Nat) : List Nat :=
  if num / 2 ^ ((num / 16 + i) % 4) % 2 = 1 then deedOn b3 hid kn bg ((num / 16 + i) % 4) t else t
noncomputable def mailOf (b3 : Int → Option Str) (hid : Int → Bool) (kn bg num : Nat) (t : List Nat) (k : Nat) : List Nat := (List.range k).foldl (fun t i => mailStep b3 hid kn bg num i t) t
theorem mailOf_succ (b3 : Int → Option Str) (hid : Int → Bool) (kn bg num : Nat) (t : List Nat) (k : Nat) : mailOf b3 hid kn bg num t (k + 1) = mailStep b3 hid kn bg num k (mailOf b3 hid kn bg num t k) := by
  unfold mailOf
  rw [List.range_succ, List.foldl_append]
  rfl
theorem flatS_len {g : Nat → Str} (h : ∀ c, (g c).length ≤ 2) : ∀ t : List Nat, (flatS g t).length ≤ 2 * t.length
  | [] => by simp [flatS]
  | c :: t => by
    have := flatS_len h t
    have h1 := h c
    unfold flatS at this ⊢
    rw [List.flatMap_cons, List.length_append]
    have : (g c).cps.toList.length = (g c).length := rfl
    simp only [List.length_cons]
    omega
theorem foldAt_len {b3 : Int → Option Str} {k : Nat} (h : (foldS b3 k).length ≤ 2) (c : Nat) : (foldAt b3 k c).length ≤ 2 := by
  unfold foldAt
  split
  · rename_i e; rw [e]; exact h
  · show 1 ≤ 2; decide
theorem quote_len2 : ∀ (t : List Nat) (b b' : Bool), (dots b (norm b' t)).length ≤ 2 * t.length
  | [], b, b' => by simp [norm, dots]
  | c :: t, b, b' => by
    rw [norm_cons]
    split
    · have := quote_len2 t b false
      simp only [List.length_cons]
      omega
    · split
      · rw [dots_cons, if_neg (fun q => absurd q.2 (by decide)), dots_cons, if_neg (fun q => absurd q.2 (by decide))]
        have := quote_len2 t (10 == 10) true
        simp only [List.length_cons]
        omega
      · split
        · rw [dots_cons, if_neg (fun q => absurd q.2 (by decide)), dots_cons, if_neg (fun q => absurd q.2 (by decide))]
          have := quote_len2 t (10 == 10) false
          simp only [List.length_cons]
          omega
        · rw [dots_cons]
          split
          · have := quote_len2 t false false
            simp only [List.length_cons]
            omega
          · have := quote_len2 t (c == 10) false
            simp only [List.length_cons]
            omega
theorem quote_len (t : List Nat) : (quote t).length ≤ 2 * t.length := quote_len2 t true false
theorem mailStep_len {b3 : Int → Option Str} {hid : Int → Bool} {kn bg num : Nat} (h1 : (foldS b3 kn).length ≤ 2) (h2 : (foldS b3 bg).length ≤ 2) (i : Nat) (t : List Nat) : (mailStep b3 hid kn bg num i t).length ≤ 2 * t.length := by
  unfold mailStep deedOn
  split
  · split
    · exact quote_len t
    · split
      · exact flatS_len (foldAt_len h1) t
      · split
        · have := List.length_filter_le (fun c : Nat => !hid (c : Nat)) t
          omega
        · exact flatS_len (foldAt_len h2) t
  · omega
theorem mailOf_len {b3 : Int → Option Str} {hid : Int → Bool} {kn bg num : Nat} (h1 : (foldS b3 kn).length ≤ 2) (h2 : (foldS b3 bg).length ≤ 2) (t : List Nat) : ∀ k, (mailOf b3 hid kn bg num t k).length ≤ 2 ^ k * t.length
  | 0 => by
    show t.length ≤ _
    omega
  | k + 1 => by
    rw [mailOf_succ]
    have a := mailStep_len (hid := hid) (num := num) h1 h2 k (mailOf b3 hid kn bg num t k)
    have b := mailOf_len (hid := hid) (num := num) h1 h2 t k
    rw [Nat.pow_succ, Nat.mul_comm (2 ^ k) 2, Nat.mul_assoc]
    omega
theorem fdiv_nat (a b : Nat) : ((a : Int)).fdiv (b : Int) = ((a / b : Nat) : Int) := (Int.ofNat_fdiv a b).symm
theorem fmod_nat (a b : Nat) : ((a : Int)).fmod (b : Int) = ((a % b : Nat) : Int) := (Int.ofNat_fmod a b).symm
theorem beq_nat (x k : Nat) : (((x : Nat) : Int) == (k : Int)) = decide (x = k) := by
  by_cases h : x = k
  · subst h; simp
  · rw [decide_eq_false h]
    exact beq_eq_false_iff_ne.mpr fun e => h (by omega)
theorem beq_one (x : Nat) : (((x : Nat) : Int) == 1) = decide (x = 1) := beq_nat x 1
noncomputable abbrev nmC1 : List (Str × NameKind) := [(".0", .local), ("one", .local), ("map_table_b3", .globalImplicit), ("knot", .cell)]
noncomputable abbrev nmC2 : List (Str × NameKind) := [(".0", .local), ("one", .local), ("in_table_b1", .globalImplicit)]
noncomputable abbrev nmC3 : List (Str × NameKind) := [(".0", .local), ("one", .local), ("map_table_b3", .globalImplicit), ("big", .cell)]
theorem fx_mail {w : World} {mg mb : Str → Option Value} {b3 : Int → Option Str} {hid : Int → Bool} {s : Shared} {A : List Nat} {num kn bg : Nat} {n : Nat} (B : Base w mg mb b3 hid s) (hg : s.gens = #[]) (hf : FnAtX s.heap 131 "_law_mail" (fnP 18) (fnB 18) (fnS 18))
    (hA : A.length ≤ 10) (h1 : (foldS b3 kn).length ≤ 2) (h2 : (foldS b3 bg).length ≤ 2) (hn : num < 2 ^ 30) :
    FX pw w (n + 9) 131 [S (mk A), I (num : Nat), S ⟨#[kn]⟩, S ⟨#[bg]⟩] s fun v H => H = [] ∧ v = S (mk (mailOf b3 hid kn bg num A 4)) := by
  refine fx_body (n := n + 5) (nm := nmMail) (ps := ["text", "number", "knot", "big"]) (par := [some 0, some 1, some 2, some 3, none, none, none, none]) hf B.gb hg rfl rfl rfl rfl (by decide) (fun pm cd doc vs hv => ?_) rfl (by decide) (by decide) fun env => ?_
  · obtain ⟨x, y, z, u, rfl⟩ := len4 hv
    kernel_rfl
  refine WS.clear ?_
  refine ws_cons (ws_ForX (X := List Nat) (xs := rangeVals 0 ((4 : Nat) : Int).toNat) (fun i t => [some (S (mk t)), some (I (num : Nat)), some (S ⟨#[kn]⟩), some (S ⟨#[bg]⟩), none, none, none, none])
    (fun i t H => H = [] ∧ t = mailOf b3 hid kn bg num A i) A (fun _ => rfl) (fun _ _ => rfl) ?_ ?_ ?_ ?_)
  · exact ⟨rfl, rfl, rfl, rfl, trivial⟩
  · exact wi_range1 (k := 4) (we_blt 6 rfl B.N.nrange B.N.range ⟨rfl, rfl⟩ rfl) rfl (we_int ⟨rfl, by decide, by decide, rfl, rfl⟩)
  · rintro i t _ a ⟨rfl, ht⟩ ha
    obtain ⟨hi, rfl⟩ := rangeVals_get ha
    have hi4 : i < 4 := hi
    have hlt : t.length ≤ 80 := by
      have a := mailOf_len (hid := hid) (num := num) h1 h2 A i
      rw [← ht] at a
      have b : 2 ^ i ≤ 8 := by
        have : i = 0 ∨ i = 1 ∨ i = 2 ∨ i = 3 := by omega
        rcases this with rfl | rfl | rfl | rfl <;> decide
      have c := Nat.mul_le_mul b hA
      omega
    refine wn_assign (wn_local 4 rfl ?_)
    rw [show (0 : Int) + (i : Nat) = (i : Nat) by omega]
    refine ws_cons (ws_Assign rfl (we_BinOp (we_BinOp (we_BinOp ?_))))
    kln_le
    refine we_int (wb_div (by decide) (PyProof.noPylong_of_log2 (by decide)) ?_)
    kln_le
    refine wb_add (we_int (wb_mod (by decide) (wn_local 5 rfl ?_)))
    have hd : ((((num : Nat) : Int).fdiv 16) + (i : Nat)).fmod 4 = (((num / 16 + i) % 4 : Nat) : Int) := by
      rw [show (16 : Int) = ((16 : Nat) : Int) from rfl, fdiv_nat, ← Int.natCast_add, show (4 : Int) = ((4 : Nat) : Int) from rfl, fmod_nat]
    rw [hd]
    have hs := mailOf_succ b3 hid kn bg num A i
    rw [← ht] at hs
    unfold mailStep at hs
    have hd4 : (num / 16 + i) % 4 < 4 := Nat.mod_lt _ (by decide)
    generalize (num / 16 + i) % 4 = d at hs hd4
    refine ws_cons (ws_IfD (num / 2 ^ d % 2 = 1) ?_ (fun hp => ?_) fun hp => ?_)
    · refine wt_Compare (we_BinOp (we_BinOp ?_)) rfl
      kln_le
      refine we_BinOp (we_int ?_)
      kln_le
      refine wb_pow (by omega) ?_ (wb_div ?_ (PyProof.noPylong_of_log2 ?_) (we_int (wb_mod (by decide) (we_int (wc_eq ⟨_, rfl, ?_, rfl⟩)))))
      · have : d = 0 ∨ d = 1 ∨ d = 2 ∨ d = 3 := by omega
        rcases this with rfl | rfl | rfl | rfl <;> decide
      · have : d = 0 ∨ d = 1 ∨ d = 2 ∨ d = 3 := by omega
        rcases this with rfl | rfl | rfl | rfl <;> decide
      · have : d = 0 ∨ d = 1 ∨ d = 2 ∨ d = 3 := by omega
        rcases this with rfl | rfl | rfl | rfl <;> decide
      · rw [Int.toNat_natCast, show (2 : Int) ^ d = ((2 ^ d : Nat) : Int) by simp, fdiv_nat, show (2 : Int) = ((2 : Nat) : Int) from rfl, fmod_nat]
        exact beq_one _
    · rw [if_pos hp] at hs
      unfold deedOn at hs
      refine ws_cons (ws_IfD (d = 0) ?_ (fun hd0 => ?_) fun hd0 => ?_)
      · refine wt_Compare ?_ rfl
        kln_le
        exact we_int (wc_eq ⟨_, rfl, beq_nat _ 0, rfl⟩)
      · rw [if_pos hd0] at hs
        refine ws_cons (ws_Assign rfl (we_quo (n := n + 1) B 7 rfl rfl ?_))
        kln_le
        exact ⟨t, rfl, by omega, wn_local 0 rfl (ws_nil (ws_nil (ws_nil ⟨quote t, _, ⟨rfl, rfl, rfl, rfl, trivial⟩, List.Sublist.refl _, rfl, hs.symm⟩)))⟩
      rw [if_neg hd0] at hs
      refine ws_cons (ws_IfD (d = 1) ?_ (fun hd1 => ?_) fun hd1 => ?_)
      · refine wt_Compare ?_ rfl
        kln_le
        exact we_int (wc_eq ⟨_, rfl, beq_nat _ 1, rfl⟩)
      · rw [if_pos hd1] at hs
        have hfl := flatS_len (foldAt_len h1) t
        refine ws_cons (ws_Assign rfl (we_joinMap (l := t) (g := foldAt b3 kn) (nm' := nmC1) (oc' := false) (cap := [none, none, none, some 2]) (ix := 1) ⟨rfl, rfl, by decide, rfl, rfl, .local, rfl, .inl rfl⟩ (by omega) rfl rfl (fun _ => rfl) ?_ (fun cenv c hc => ?_) (by omega) ?_))
        · kln_le
          exact ⟨rfl, rfl⟩
        · refine we_IfExp (wt_Compare ?_ rfl)
          kln_le
          kln_le
          refine wc_eqs ⟨_, rfl, ?_⟩
          rw [str1_beq]
          unfold foldAt
          by_cases hk : c = kn
          · rw [decide_eq_true hk, if_pos hk, if_pos rfl]
            refine we_b3 (n := n + 1) B 2 rfl rfl ?_
            kln_le
            exact ⟨c, rfl, rfl, rfl⟩
          · rw [decide_eq_false hk, if_neg hk, if_neg (by decide)]
            kln_le
            exact ⟨rfl, rfl⟩
        · exact wn_local 0 rfl (ws_nil (ws_nil (ws_nil (ws_nil ⟨_, _, ⟨rfl, rfl, rfl, rfl, trivial⟩, List.Sublist.refl _, rfl, hs.symm⟩))))
      rw [if_neg hd1] at hs
      refine ws_cons (ws_IfD (d = 2) ?_ (fun hd2 => ?_) fun hd2 => ?_)
      · refine wt_Compare ?_ rfl
        kln_le
        exact we_int (wc_eq ⟨_, rfl, beq_nat _ 2, rfl⟩)
      · rw [if_pos hd2] at hs
        refine ws_cons (ws_Assign rfl (we_joinFilter (l := t) (p := fun c => !hid (c : Nat)) (nm' := nmC2) (oc' := false) (cap := [none, none, none]) (ix := 1) ⟨rfl, rfl, by decide, rfl, rfl, .local, rfl, .inl rfl⟩ (by omega) rfl rfl (fun _ => rfl) ?_ (fun cenv c hc => ?_) (fun cenv c => ?_) ?_))
        · kln_le
          exact ⟨rfl, rfl⟩
        · refine wt_not (wt_value rfl (we_b1 (n := n + 1) B 2 rfl rfl ?_))
          kln_le
          exact ⟨c, rfl, wtr_bool ⟨rfl, rfl⟩⟩
        · kln_le
          exact ⟨rfl, rfl⟩
        · exact wn_local 0 rfl (ws_nil (ws_nil (ws_nil (ws_nil (ws_nil ⟨_, _, ⟨rfl, rfl, rfl, rfl, trivial⟩, List.Sublist.refl _, rfl, hs.symm⟩)))))
      rw [if_neg hd2] at hs
      have hfl := flatS_len (foldAt_len h2) t
      refine ws_cons (ws_Assign rfl (we_joinMap (l := t) (g := foldAt b3 bg) (nm' := nmC3) (oc' := false) (cap := [none, none, none, some 3]) (ix := 1) ⟨rfl, rfl, by decide, rfl, rfl, .local, rfl, .inl rfl⟩ (by omega) rfl rfl (fun _ => rfl) ?_ (fun cenv c hc => ?_) (by omega) ?_))
      · kln_le
        exact ⟨rfl, rfl⟩
      · refine we_IfExp (wt_Compare ?_ rfl)
        kln_le
        kln_le
        refine wc_eqs ⟨_, rfl, ?_⟩
        rw [str1_beq]
        unfold foldAt
        by_cases hk : c = bg
        · rw [decide_eq_true hk, if_pos hk, if_pos rfl]
          refine we_b3 (n := n + 1) B 2 rfl rfl ?_
          kln_le
          exact ⟨c, rfl, rfl, rfl⟩
        · rw [decide_eq_false hk, if_neg hk, if_neg (by decide)]
          kln_le
          exact ⟨rfl, rfl⟩
      · exact wn_local 0 rfl (ws_nil (ws_nil (ws_nil (ws_nil (ws_nil ⟨_, _, ⟨rfl, rfl, rfl, rfl, trivial⟩, List.Sublist.refl _, rfl, hs.symm⟩)))))
    · rw [if_neg hp] at hs
      exact ws_nil (ws_nil ⟨t, _, ⟨rfl, rfl, rfl, rfl, trivial⟩, List.Sublist.refl _, rfl, hs.symm⟩)
  · rintro t _ ⟨rfl, ht⟩
    refine ws_cons (ws_Return ?_)
    kln_le
    exact ⟨rfl, by rw [ht]; rfl⟩
end Mine
end

section
open PySem PySem.W PyProof.Rows
set_option Elab.async false
set_option linter.unusedVariables false
namespace Mine
theorem pick_drop (xs : List Value) (k : Nat) (h : k ≤ xs.length) : (slicePick xs.toArray (some (k : Int)) none none).toList = xs.drop k := by
  rw [kms_pick_eq]
  have e1 : kms_lo (some (k : Int)) xs.length = k := by
    unfold kms_lo
    dsimp only
    rw [if_neg (by omega), Int.toNat_natCast]
    omega
  have e2 : kms_hi none xs.length = xs.length := rfl
  simp only [kms_pick, e1, e2]
  rw [List.take_of_length_le]
  rw [List.length_drop]
  omega
section
variable {prog : Program} {w : World} {n : Nat} {mg mb : Str → Option Value} {K : Shared} {env : Env} {nm : List (Str × NameKind)} {oc : Bool} {F : List (Option Value)} {H : List Ent}
/-- a list of the frame's own: it is put aside while it is walked -/
theorem wi_listN {iter : Expr} {xs : List Value} {Q : List Ent → List Ent → Prop}
    (h : WE prog w n mg mb K env nm oc (eval iter env) F H fun v H₁ => ∃ a, v = .ref a ∧ ∃ X Y, H₁ = X ++ (a, xs) :: Y ∧ Q (X ++ Y) [(a, xs)]) : WI prog w n mg mb K env nm oc (eval iter env) F H xs Q := by
  intro A hA P s E R st hR
  refine h A hA P s E _ st fun v F' H' s₁ st₁ z00 => z00.elim fun e1 z00 => z00.elim fun b z00 => z00.elim fun hb z00 => z00.elim fun a z00 => z00.elim fun q1 z00 => z00.elim fun X z00 => z00.elim fun Y z00 => z00.elim fun q2 q3 => ?_
  subst e1 q1
  cases hb
  subst q2
  have hmem : (a, xs) ∈ X ++ (a, xs) :: Y := by simp
  obtain ⟨hla, hKa⟩ := st₁.led _ hmem
  obtain ⟨vs, hl, hp⟩ := hla.rd
  have hsub : (X ++ Y).Sublist (X ++ (a, xs) :: Y) := List.Sublist.append (List.Sublist.refl _) (List.sublist_cons_self _ _)
  have hno : ∀ e ∈ X ++ Y, e.1 ≠ a := by
    intro e he
    have := st₁.nod
    rw [List.map_append, List.map_cons, List.nodup_append] at this
    obtain ⟨n1, n2, n3⟩ := this
    rw [List.nodup_cons] at n2
    rcases List.mem_append.mp he with he | he
    · exact n3 _ (List.mem_map_of_mem he) _ List.mem_cons_self
    · exact fun q => n2.1 (List.mem_map.mpr ⟨e, he, q⟩)
  have hPa : ∀ p ∈ P, p.1 ≠ a := fun p hp' => Ne.symm ((st₁.pro p hp').2.2.1 _ hmem)
  refine wpAny_pyIter_list hl ?_
  generalize ho2 : ({ cls := .type "list_iterator", data := .fields #[.ref a, .int 0 0] } : Obj) = o2
  have st' : St mg mb K P env nm oc F' (X ++ Y) { s₁ with heap := s₁.heap.push o2 } := (st₁.kept (s' := { s₁ with heap := s₁.heap.push o2 }) (fun b o e => Heap.get?_push_of_some _ e) st₁.gens rfl).drop hsub
  have hf := (st₁.drop hsub).fresh (b := s₁.heap.objs.size) (Nat.le_refl _)
  have hne : a ≠ s₁.heap.objs.size := Nat.ne_of_lt hla.lt
  have hsz : vs.size = xs.length := by have := Paired.len hp; simpa using this.symm
  have hcell : oc = true → ∀ (i : Nat) (x : Str) (c : Addr), nm[i]? = some (x, NameKind.cell) → env.cells.lookup x = some c → c ≠ a := fun ho i x c hx hc => by
    obtain ⟨c', ov, h1, h2, _⟩ := st₁.cl i x .cell hx (.inl rfl)
    rw [hc] at h1
    cases h1
    exact Ne.symm (st₁.cellne hmem h2)
  refine hR _ _ [(a, xs)] _ s₁.heap.objs.size [s₁.heap.objs.size, a] [s₁.heap.objs.size] _ _ st' ⟨rfl, hsz ▸ Walks.list hA.1 _ a hne vs, ?_, ?_, ?_, ?_, ?_⟩ ?_ ⟨fun e he => ?_, by simp⟩ q3
  · refine ⟨⟨o2, Heap.get?_push_size _ (by subst ho2; rfl), by subst ho2; rfl, by subst ho2; rfl⟩, ?_⟩
    obtain ⟨o, h1, h2⟩ := hl
    exact ⟨o, Heap.get?_push_of_some _ h1, h2⟩
  · intro i v x hx hv
    obtain ⟨v', h1, h2⟩ := Paired.get hp hx
    have : vs.toList[i]? = some v := by simpa using hv
    rw [this] at h1
    cases h1
    exact h2
  · rintro i h ⟨⟨o, h1, h2, h3⟩, ⟨o', h4, h5, k', h6⟩⟩ b hb
    rcases List.mem_cons.mp hb with rfl | hb
    · exact ⟨o, h1, fun ov e => by rw [h3] at e; cases e⟩
    · rw [List.mem_singleton.mp hb]
      exact ⟨o', h4, fun ov e => by rw [h6] at e; cases e⟩
  · intro b hb
    rw [List.mem_singleton.mp hb]
    exact ⟨hf.1, hf.2.2⟩
  · intro b hb
    rw [List.mem_singleton.mp hb]
    exact hf.2.1
  · intro b hb
    rcases List.mem_cons.mp hb with rfl | hb
    · exact hf.2.1
    · rw [List.mem_singleton.mp hb]
      exact ⟨st₁.kindne hmem, hno, hcell⟩
  · rw [List.mem_singleton.mp he]
    refine ⟨hla.at' fun o e => Heap.get?_push_of_some _ e, hKa, fun hb => hne (List.mem_singleton.mp hb), fun e' he' => hno e' he', hPa⟩
end
end Mine
end

section
open PySem PySem.W PyProof.Rows
set_option Elab.async false
set_option linter.unusedVariables false
namespace Mine
/-! the elimination, as plain functions -/
noncomputable def setA (A : Nat → Nat → Int) (i j : Nat) (v : Int) : Nat → Nat → Int := fun i' j' => if i' = i ∧ j' = j then v else A i' j'
noncomputable def sw (k p i : Nat) : Nat := if i = k then p else if i = p then k else i
noncomputable def swapA (A : Nat → Nat → Int) (k p : Nat) : Nat → Nat → Int := fun i j => A (sw k p i) j
noncomputable def newA (A : Nat → Nat → Int) (k : Nat) (a : Int) (i j : Nat) : Int := (A i j * A k k - A i k * A k j).fdiv a
/-- all places ahead of (i, j) behind the pivot are new -/
noncomputable def midA (A : Nat → Nat → Int) (k : Nat) (a : Int) (i j : Nat) : Nat → Nat → Int := fun i' j' => if k < i' ∧ k < j' ∧ (i' < i ∨ (i' = i ∧ j' < j)) then newA A k a i' j' else A i' j'
noncomputable def picksOf (A : Nat → Nat → Int) (k m : Nat) : List Nat := ((List.range m).map (k + ·)).filter fun r => A r k != 0
noncomputable def barF (n : Nat) : Nat → Nat → (Nat → Nat → Int) → Int → Int → Int
  | 0, _, _, a, t => t * a
  | f + 1, k, A, a, t => match picksOf A k (n - k) with
    | [] => 0
    | p :: _ =>
      let A1 := if p = k then A else swapA A k p
      let t1 := if p = k then t else -t
      barF n f (k + 1) (midA A1 k a n n) (A1 k k) t1
noncomputable def bnd (k : Nat) : Nat := 2 ^ (5 * 2 ^ k - 1)
theorem bnd_succ (k : Nat) : bnd k * bnd k + bnd k * bnd k = bnd (k + 1) := by
  unfold bnd
  have h : 0 < 2 ^ k := Nat.two_pow_pos k
  rw [← Nat.pow_add, Nat.pow_succ]
  generalize 2 ^ k = m at h
  have : 2 ^ (5 * m - 1 + (5 * m - 1)) + 2 ^ (5 * m - 1 + (5 * m - 1)) = 2 ^ (5 * m - 1 + (5 * m - 1) + 1) := by rw [Nat.pow_succ]; omega
  rw [this]
  congr 1
  omega
theorem bnd_pos (k : Nat) : 0 < bnd k := Nat.two_pow_pos _
theorem bnd_le (k : Nat) : bnd k ≤ bnd (k + 1) := by
  rw [← bnd_succ]
  have := bnd_pos k
  have : bnd k * 1 ≤ bnd k * bnd k := Nat.mul_le_mul_left _ this
  omega
theorem newA_bnd {A : Nat → Nat → Int} {k m : Nat} {a : Int} (h : ∀ i j, (A i j).natAbs ≤ bnd m) (i j : Nat) : (newA A k a i j).natAbs ≤ bnd (m + 1) := by
  unfold newA
  refine Nat.le_trans (Int.natAbs_fdiv_le_natAbs _ _) ?_
  have mul : ∀ x y : Int, x.natAbs ≤ bnd m → y.natAbs ≤ bnd m → (x * y).natAbs ≤ bnd m * bnd m := fun x y hx hy => by rw [Int.natAbs_mul]; exact Nat.mul_le_mul hx hy
  have h1 := mul _ _ (h i j) (h k k)
  have h2 := mul _ _ (h i k) (h k j)
  have := bnd_succ m
  omega
theorem midA_bnd {A : Nat → Nat → Int} {k m : Nat} {a : Int} (h : ∀ i j, (A i j).natAbs ≤ bnd m) (i j i' j' : Nat) : (midA A k a i j i' j').natAbs ≤ bnd (m + 1) := by
  unfold midA
  split
  · exact newA_bnd h _ _
  · exact Nat.le_trans (h _ _) (bnd_le m)
theorem swapA_bnd {A : Nat → Nat → Int} {k p m : Nat} (h : ∀ i j, (A i j).natAbs ≤ bnd m) (i j : Nat) : (swapA A k p i j).natAbs ≤ bnd m := h _ _
theorem bnd_mono : ∀ {k m : Nat}, k ≤ m → bnd k ≤ bnd m
  | k, 0, h => by rw [Nat.le_zero.mp h]; exact Nat.le_refl _
  | k, m + 1, h => by
    rcases Nat.lt_or_ge m k with h1 | h1
    · rw [show k = m + 1 by omega]; exact Nat.le_refl _
    · exact Nat.le_trans (bnd_mono h1) (bnd_le m)
theorem log_small {x : Int} {m : Nat} (hm : m ≤ 8) (h : x.natAbs ≤ bnd m) : x.natAbs.log2 < 2000 := by
  by_cases h0 : x.natAbs = 0
  · rw [h0]; decide
  · refine (Nat.log2_lt h0).mpr (Nat.lt_of_le_of_lt (Nat.le_trans h (bnd_mono hm)) ?_)
    unfold bnd
    exact Nat.pow_lt_pow_right (by decide) (by decide)
theorem mul_ok {x y : Int} {m : Nat} (hm : m ≤ 8) (h : x.natAbs ≤ bnd m) (h' : y.natAbs ≤ bnd m) : IntMulOk x y := by
  have key : ∀ z : Int, z.natAbs ≤ bnd m → Builtin.Int.intBits z ≤ 2 ^ 20 := by
    intro z hz
    have := log_small hm hz
    unfold Builtin.Int.intBits
    split <;> omega
  exact IntMulOk.of_bits (key x h) (key y h')
theorem div_ok {x y : Int} {m : Nat} (hm : m ≤ 8) (h : y.natAbs ≤ bnd m) : Builtin.divisionGoesByPylong x y = false := PyProof.noPylong_of_log2 (Nat.lt_trans (log_small hm h) (by decide))
/-! the rows in the frame's ledger -/
noncomputable def rowV (A : Nat → Nat → Int) (n i : Nat) : List Value := (List.range n).map fun j => I (A i j)
noncomputable def rowsE (A : Nat → Nat → Int) (n : Nat) (as : List Addr) : List Ent := (List.range as.length).map fun i => (as.getD i 0, rowV A n i)
theorem rowV_get {A : Nat → Nat → Int} {n i j : Nat} (h : j < n) : (rowV A n i)[j]? = some (I (A i j)) := by
  unfold rowV
  rw [List.getElem?_map, List.getElem?_range h]
  rfl
theorem rowV_len (A : Nat → Nat → Int) (n i : Nat) : (rowV A n i).length = n := by simp [rowV]
theorem rowsE_get {A : Nat → Nat → Int} {n i : Nat} {as : List Addr} (h : i < as.length) : (rowsE A n as)[i]? = some (as.getD i 0, rowV A n i) := by
  unfold rowsE
  rw [List.getElem?_map, List.getElem?_range h]
  rfl
theorem rowsE_mem {A : Nat → Nat → Int} {n i : Nat} {as : List Addr} (h : i < as.length) : (as.getD i 0, rowV A n i) ∈ rowsE A n as := List.mem_of_getElem? (rowsE_get h)
theorem refs_get {as : List Addr} {i : Nat} (h : i < as.length) : (as.map Value.ref)[i]? = some (.ref (as.getD i 0)) := by
  rw [List.getElem?_map, List.getElem?_eq_getElem h, List.getD_eq_getElem?_getD, List.getElem?_eq_getElem h]
  rfl
theorem rowsE_set {A : Nat → Nat → Int} {n i j : Nat} {as : List Addr} {v : Int} (h : i < as.length) : (rowsE A n as).set i (as.getD i 0, (rowV A n i).set j (I v)) = rowsE (setA A i j v) n as := by
  refine List.ext_getElem? fun k => ?_
  rw [List.getElem?_set]
  by_cases hk : k < as.length
  · rw [rowsE_get hk, rowsE_get hk]
    by_cases hi : i = k
    · subst hi
      rw [if_pos rfl, if_pos (by simp [rowsE]; exact h)]
      congr 2
      refine List.ext_getElem? fun m => ?_
      rw [List.getElem?_set, rowV_len]
      by_cases hm : m < n
      · rw [rowV_get hm, rowV_get hm]
        unfold setA
        by_cases hj : j = m
        · subst hj
          rw [if_pos rfl, if_pos hm, if_pos ⟨rfl, rfl⟩]
        · rw [if_neg hj, if_neg (fun q => hj q.2.symm)]
      · by_cases hj : j = m
        · rw [if_pos hj, if_neg (by omega), List.getElem?_eq_none (by rw [rowV_len]; omega)]
        · rw [if_neg hj, List.getElem?_eq_none (by rw [rowV_len]; omega), List.getElem?_eq_none (by rw [rowV_len]; omega)]
    · rw [if_neg hi]
      congr 2
      unfold rowV setA
      refine List.map_congr_left fun m _ => ?_
      rw [if_neg fun q => hi q.1.symm]
  · have h1 : (rowsE A n as)[k]? = none := List.getElem?_eq_none (by simp [rowsE]; omega)
    have h2 : (rowsE (setA A i j v) n as)[k]? = none := List.getElem?_eq_none (by simp [rowsE]; omega)
    rw [h1, h2]
    by_cases hi : i = k
    · omega
    · rw [if_neg hi]
theorem sw_lt {k p i n : Nat} (hk : k < n) (hp : p < n) (hi : i < n) : sw k p i < n := by
  unfold sw
  split
  · exact hp
  · split
    · exact hk
    · exact hi
theorem sw_sw (k p i : Nat) : sw k p (sw k p i) = i := by
  unfold sw
  by_cases h1 : i = k
  · subst h1
    rw [if_pos rfl]
    by_cases h2 : p = i
    · rw [if_pos h2, h2]
    · rw [if_neg h2, if_pos rfl]
  · rw [if_neg h1]
    by_cases h2 : i = p
    · rw [if_pos h2, if_pos rfl, h2]
    · rw [if_neg h2, if_neg h1, if_neg h2]
theorem rowsE_swap {A : Nat → Nat → Int} {n k p : Nat} {as : List Addr} (hk : k < as.length) (hp : p < as.length) : (rowsE (swapA A k p) n ((as.set k (as.getD p 0)).set p (as.getD k 0))).Perm (rowsE A n as) := by
  have hl : ((as.set k (as.getD p 0)).set p (as.getD k 0)).length = as.length := by simp
  have hg : ∀ i, i < as.length → ((as.set k (as.getD p 0)).set p (as.getD k 0)).getD i 0 = as.getD (sw k p i) 0 := by
    intro i hi
    unfold sw
    rw [List.getD_eq_getElem?_getD, List.getElem?_set]
    by_cases h2 : p = i
    · subst h2
      rw [if_pos rfl, if_pos (by simp; exact hi)]
      by_cases h1 : p = k
      · rw [if_pos h1, ← h1]
        rfl
      · rw [if_neg h1, if_pos rfl]
        rfl
    · rw [if_neg h2, List.getElem?_set]
      by_cases h1 : k = i
      · subst h1
        rw [if_pos rfl, if_pos hi, if_pos rfl]
        rfl
      · rw [if_neg h1, if_neg (fun q => h1 q.symm), if_neg (fun q => h2 q.symm), List.getD_eq_getElem?_getD]
  have e : rowsE (swapA A k p) n ((as.set k (as.getD p 0)).set p (as.getD k 0)) = ((List.range as.length).map (sw k p)).map fun i => (as.getD i 0, rowV A n i) := by
    unfold rowsE
    rw [hl, List.map_map]
    refine List.map_congr_left fun i hi => ?_
    rw [hg i (List.mem_range.mp hi)]
    rfl
  rw [e]
  unfold rowsE
  refine List.Perm.map _ ?_
  refine (List.perm_ext_iff_of_nodup ?_ List.nodup_range).mpr fun x => ?_
  · refine List.Pairwise.map _ (fun a b hab e => hab ?_) List.nodup_range
    rw [← sw_sw k p a, e, sw_sw]
  · rw [List.mem_map, List.mem_range]
    constructor
    · rintro ⟨y, hy, rfl⟩
      exact sw_lt hk hp (List.mem_range.mp hy)
    · intro hx
      exact ⟨sw k p x, List.mem_range.mpr (sw_lt hk hp hx), sw_sw k p x⟩
theorem rowsE_congr {A B : Nat → Nat → Int} {n : Nat} {as : List Addr} (h : ∀ i j, i < as.length → j < n → A i j = B i j) : rowsE A n as = rowsE B n as := by
  unfold rowsE
  refine List.map_congr_left fun i hi => ?_
  congr 1
  unfold rowV
  exact List.map_congr_left fun j hj => by rw [h i j (List.mem_range.mp hi) (List.mem_range.mp hj)]
end Mine
end

section
open PySem PySem.W PyProof.Rows
set_option Elab.async false
set_option linter.unusedVariables false
set_option maxRecDepth 100000
set_option maxHeartbeats 0
namespace Mine
local macro_rules | `(tactic| kln_le) => `(tactic| first
  | refine we_name 0 rfl rfl (by decide) ?_ rfl rfl | refine we_name 1 rfl rfl (by decide) ?_ rfl rfl | refine we_name 2 rfl rfl (by decide) ?_ rfl rfl | refine we_name 3 rfl rfl (by decide) ?_ rfl rfl | refine we_name 4 rfl rfl (by decide) ?_ rfl rfl | refine we_name 5 rfl rfl (by decide) ?_ rfl rfl | refine we_name 6 rfl rfl (by decide) ?_ rfl rfl | refine we_name 7 rfl rfl (by decide) ?_ rfl rfl | refine we_name 8 rfl rfl (by decide) ?_ rfl rfl | refine we_name 9 rfl rfl (by decide) ?_ rfl rfl | refine we_name 10 rfl rfl (by decide) ?_ rfl rfl | refine we_name 11 rfl rfl (by decide) ?_ rfl rfl | refine we_name 12 rfl rfl (by decide) ?_ rfl rfl | refine we_name 13 rfl rfl (by decide) ?_ rfl rfl | refine we_name 14 rfl rfl (by decide) ?_ rfl rfl | refine we_name 15 rfl rfl (by decide) ?_ rfl rfl | refine we_name 16 rfl rfl (by decide) ?_ rfl rfl | refine we_name 17 rfl rfl (by decide) ?_ rfl rfl | refine we_name 18 rfl rfl (by decide) ?_ rfl rfl | refine we_name 19 rfl rfl (by decide) ?_ rfl rfl | refine we_name 20 rfl rfl (by decide) ?_ rfl rfl)
noncomputable abbrev nmDet : List (Str × NameKind) := [("rows", .local), ("work", .cell), ("ahead", .local), ("turn", .local), ("k", .cell), ("i", .local), ("picks", .local), ("kept", .local), ("j", .local), ("range", .globalImplicit), ("len", .globalImplicit)]
noncomputable abbrev nmDC1 : List (Str × NameKind) := [(".0", .local), ("row", .local), ("list", .globalImplicit)]
noncomputable abbrev nmDC2 : List (Str × NameKind) := [(".0", .local), ("i", .local), ("k", .cell), ("work", .cell)]
section
variable {prog : Program} {w : World} {n : Nat} {mg mb : Str → Option Value} {K : Shared} {env : Env} {nm : List (Str × NameKind)} {oc : Bool} {F : List (Option Value)} {H : List Ent}
theorem ws_AssignV {x : Str} {pos' pos : Pos} {value : Expr} {Q : Flow → List (Option Value) → List Ent → Prop} (hs : ∀ P s, St mg mb K P env nm oc F H s → swapsWith value (some (.Name x pos')) pos.line env = pure false)
    (h : WE prog w n mg mb K env nm oc (eval value env) F H fun a H₁ => WN prog w n mg mb K env nm oc (storeName env x) a F H₁ fun F' H' => Q .next F' H') :
    WS prog w n mg mb K env nm oc (exec (.Assign [.Name x pos'] value pos) env) F H Q :=
  fun A hA P s E R st hR => ws_Assign (hs P s st) h A hA P s E R st hR
theorem swap_cell {P : List (Addr × Obj)} {s : Shared} {elt : Expr} {gs : List Comprehension} {scope : Scope} {pos pz : Pos} {z : Str} {l i : Nat} (st : St mg mb K P env nm oc F H s) (hz : nm[i]? = some (z, .cell)) :
    swapsWith (.ListComp elt gs scope pos) (some (.Name z pz)) l env = pure false := by
  have k1 := st.ok.kindOf hz
  show (pure (env.blockKind == .function && env.kindOf z == some .local && pz.line == pos.line && !(scope.names.any fun (n, k) => n == z && (k == .local || k == .cell))) : Sem Bool) = pure false
  rw [k1]
  have : ((some NameKind.cell : Option NameKind) == some .local) = false := by decide
  rw [this, Bool.and_false]
  rfl
theorem swap_loc {P : List (Addr × Obj)} {s : Shared} {elt : Expr} {gs : List Comprehension} {scope : Scope} {pos pz : Pos} {z : Str} {l i : Nat}
    (st : St mg mb K P env nm oc F H s) (hz : nm[i]? = some (z, .local)) (hp : (pz.line == pos.line) = true) (hn : (!(scope.names.any fun (n, k) => n == z && (k == .local || k == .cell))) = true) : swapsWith (.ListComp elt gs scope pos) (some (.Name z pz)) l env = pure true := by
  have k1 := st.ok.kindOf hz
  have k3 : env.blockKind = .function := by unfold Env.blockKind; rw [st.ok.kind]; rfl
  show (pure (env.blockKind == .function && env.kindOf z == some .local && pz.line == pos.line && !(scope.names.any fun (n, k) => n == z && (k == .local || k == .cell))) : Sem Bool) = pure true
  rw [k1, k3, hp, hn]
  rfl
/-- list(xs) by its name -/
theorem we_listOf {x : Str} {p pos : Pos} {e : Expr} {Q : Value → List Ent → Prop} (j : Nat) (hx : nm[j]? = some (x, .globalImplicit)) (hm : mg x = none) (hb : mb x = some (.type "list")) (hd : (x == ("__debug__" : Str)) = false)
    (he : starEach [e] env = (false, eval e env) :: starEach [] env)
    (h : WE prog w n mg mb K env nm oc (eval e env) F H fun a H₁ => ∃ l xs, a = .ref l ∧ Rd K H₁ l xs ∧ xs.length ≤ sizeLine ∧ ∀ c, Q (.ref c) (H₁ ++ [(c, xs)])) : WE prog w n mg mb K env nm oc (eval (.Call (.Name x p) [e] [] pos) env) F H Q :=
  we_Call (we_blt j hx hm hb (fun f' hf' => by
    cases hf'
    refine we_with rfl he rfl (wl_cons he (h.mono fun a H₁ z00 => z00.elim fun l z00 => z00.elim fun xs z00 => z00.elim fun e1 z00 => z00.elim fun h1 z00 => z00.elim fun h2 h3 => wl_nil fun vs hvs => ?_))
    subst e1
    exact wc_list h1 h2 h3 vs hvs) hd)
theorem interactive_no {P : List (Addr × Obj)} {s : Shared} (st : St mg mb K P env nm oc F H s) : interactive env = false := by
  unfold interactive
  rw [st.ok.kind]
  rfl
theorem WT.drop {m : Sem Bool} {Q Q' : Bool → List Ent → Prop}
    (h : WT prog w n mg mb K env nm oc m F H Q) (q : ∀ a H', Q a H' → ∃ H'', H''.Sublist H' ∧ Q' a H'') : WT prog w n mg mb K env nm oc m F H Q' :=
  WX.weaken h fun r F' H' z00 => z00.elim fun e x => by
    obtain ⟨H'', s, q'⟩ := q r H' x
    exact ⟨F', H'', SubL.refl _, s, e, q'⟩
end
noncomputable abbrev nV (l : List Nat) : List Value := l.map fun (x : Nat) => I (x : Int)
theorem nV_data {K : Shared} {H : List Ent} : ∀ l : List Nat, RdDs K H (nV l) (l.map fun (x : Nat) => PyData.int (x : Int))
  | [] => .nil
  | x :: l => .cons (.int _ 0) (nV_data l)
theorem lay_ints : ∀ l : List Nat, PyData.canLayAll0 (l.map fun (x : Nat) => PyData.int x) = true
  | [] => rfl
  | a :: l => by
    show (PyData.canLay0 (.int a) && PyData.canLayAll0 (l.map fun (x : Nat) => PyData.int x)) = true
    rw [lay_ints l]
    rfl
theorem we_at {w : World} {n : Nat} {mg mb : Str → Option Value} {K : Shared} {env : Env} {F : List (Option Value)} {H : List Ent} {W : Addr} {as : List Addr} {C : Nat → Nat → Int} {m i j : Nat} {x1 x2 : Str} {p1 p2 p3 q1 q2 : Pos} {Q : Value → List Ent → Prop} (hF : F[1]? = some (some (.ref W))) (hW : (W, as.map .ref) ∈ H)
    (hR : (as.getD i 0, rowV C m i) ∈ H) (hi : i < as.length) (hj : j < m) (hs : m ≤ 5) (hl : as.length = m) (h1 : WE pw w n mg mb K env nmDet true (eval (.Name x1 q1) env) F H fun v H' => v = I (i : Nat) ∧ H' = H) (h2 : WE pw w n mg mb K env nmDet true (eval (.Name x2 q2) env) F H fun v H' => v = I (j : Nat) ∧ H' = H)
    (h : Q (I (C i j)) H) : WE pw w n mg mb K env nmDet true (eval (.Subscript (.Subscript (.Name "work" p1) (.Name x1 q1) p2) (.Name x2 q2) p3) env) F H Q := by
  refine we_Sub (we_Sub (we_name 1 rfl hF (by decide) (h1.mono fun v H' z00 => z00.elim fun e1 e2 => ?_) rfl rfl))
  subst e1 e2
  refine wsub_list (xs := as.map .ref) (x := .ref (as.getD i 0)) (.inl hW) (by omega) (by omega) (by rw [Int.toNat_natCast]; exact refs_get hi) (h2.mono fun v H' z00 => z00.elim fun e1 e2 => ?_) (fun _ => rfl)
  subst e1 e2
  exact wsub_list (xs := rowV C m i) (x := I (C i j)) (.inl hR) (by omega) (by omega) (by rw [Int.toNat_natCast]; exact rowV_get hj) h (fun _ => rfl)
theorem mid_congr {A : Nat → Nat → Int} {a : Int} {k r c r' c' i j : Nat} (h : k < i → k < j → ((i < r ∨ i = r ∧ j < c) ↔ (i < r' ∨ i = r' ∧ j < c'))) : midA A k a r c i j = midA A k a r' c' i j := by
  unfold midA
  by_cases h1 : k < i ∧ k < j
  · by_cases h2 : i < r ∨ i = r ∧ j < c
    · rw [if_pos ⟨h1.1, h1.2, h2⟩, if_pos ⟨h1.1, h1.2, (h h1.1 h1.2).mp h2⟩]
    · rw [if_neg fun q => h2 q.2.2, if_neg fun q => h2 ((h h1.1 h1.2).mpr q.2.2)]
  · rw [if_neg fun q => h1 ⟨q.1, q.2.1⟩, if_neg fun q => h1 ⟨q.1, q.2.1⟩]
theorem mid_start {A : Nat → Nat → Int} {a : Int} {k r i j : Nat} : midA A k a r 0 i j = midA A k a r (k + 1 + 0) i j :=
  mid_congr fun _ h2 => or_congr Iff.rfl (and_congr Iff.rfl ⟨fun h => absurd h (Nat.not_lt_zero _), fun h => absurd h (Nat.not_lt.mpr h2)⟩)
theorem mid_row {A : Nat → Nat → Int} {a : Int} {k r m i j : Nat} (hj : j < m) : midA A k a r m i j = midA A k a (r + 1) 0 i j :=
  mid_congr fun _ _ => ⟨fun h => .inl (h.elim (fun h => Nat.lt_succ_of_lt h) fun h => h.1 ▸ Nat.lt_succ_self _), fun h => h.elim (fun h => (Nat.lt_succ_iff_lt_or_eq.mp h).elim .inl fun e => .inr ⟨e, hj⟩) fun h => absurd h.2 (Nat.not_lt_zero _)⟩
theorem mid_all {A : Nat → Nat → Int} {a : Int} {k m i j : Nat} (hi : i < m) : midA A k a m 0 i j = midA A k a m m i j :=
  mid_congr fun _ _ => ⟨fun _ => .inl hi, fun _ => .inl hi⟩
theorem mid_self {A : Nat → Nat → Int} {a : Int} {k r c : Nat} : midA A k a r c r c = A r c := by
  unfold midA
  rw [if_neg fun q => q.2.2.elim (Nat.lt_irrefl _) fun h => Nat.lt_irrefl _ h.2]
theorem mid_rowk {A : Nat → Nat → Int} {a : Int} {k r c j : Nat} : midA A k a r c k j = A k j := by
  unfold midA
  rw [if_neg fun q => Nat.lt_irrefl _ q.1]
theorem mid_colk {A : Nat → Nat → Int} {a : Int} {k r c i : Nat} : midA A k a r c i k = A i k := by
  unfold midA
  rw [if_neg fun q => Nat.lt_irrefl _ q.2.1]
theorem mid_none {A : Nat → Nat → Int} {a : Int} {k i j : Nat} : midA A k a (k + 1 + 0) 0 i j = A i j := by
  unfold midA
  rw [if_neg fun q => q.2.2.elim (fun h => Nat.lt_irrefl _ (Nat.lt_of_lt_of_le q.1 (Nat.le_of_lt_succ h))) fun h => Nat.not_lt_zero _ h.2]
theorem mid_next {A : Nat → Nat → Int} {a : Int} {k r c i j : Nat} (hr : k < r) (hc : k < c) : setA (midA A k a r c) r c (newA A k a r c) i j = midA A k a r (c + 1) i j := by
  by_cases h : i = r ∧ j = c
  · obtain ⟨rfl, rfl⟩ := h
    unfold setA midA
    rw [if_pos ⟨rfl, rfl⟩, if_pos ⟨hr, hc, .inr ⟨rfl, Nat.lt_succ_self _⟩⟩]
  · refine Eq.trans (b := midA A k a r c i j) ?_ (mid_congr fun _ _ => or_congr Iff.rfl ⟨fun q => ⟨q.1, Nat.lt_succ_of_lt q.2⟩, fun q => ⟨q.1, (Nat.lt_succ_iff_lt_or_eq.mp q.2).elim id fun e => absurd ⟨q.1, e⟩ h⟩⟩)
    unfold setA
    rw [if_neg h]
theorem step_len {m k : Nat} (hk : k < m) : k + 1 + (((m : Nat) : Int) - ((k : Int) + 1)).toNat = m := by omega
theorem barF_succ (n f k : Nat) (A : Nat → Nat → Int) (a t : Int) : barF n (f + 1) k A a t = match picksOf A k (n - k) with
    | [] => 0
    | p :: _ => barF n f (k + 1) (midA (if p = k then A else swapA A k p) k a n n) ((if p = k then A else swapA A k p) k k) (if p = k then t else -t) := rfl
theorem fx_det {w : World} {mg mb : Str → Option Value} {b3 : Int → Option Str} {hid : Int → Bool} {s : Shared} {Rw : Addr} {A0 : Nat → Nat → Int} {as0 : List Addr} {m n : Nat} (B : Base w mg mb b3 hid s) (hg : s.gens = #[]) (hf : FnAtX s.heap 136 "_law_determinant" (fnP 19) (fnB 19) (fnS 19))
    (hm : as0.length = m) (hm5 : m ≤ 5) (hR : RdAt s.heap Rw (as0.map .ref)) (hrow : ∀ i, i < m → RdAt s.heap (as0.getD i 0) (rowV A0 m i)) (hA : ∀ i j, (A0 i j).natAbs ≤ bnd 0) :
    FX pw w (n + 4) 136 [.ref Rw] s fun v H => v = I (barF m m 0 A0 1 1) := by
  refine fx_body (nm := nmDet) (ps := ["rows"]) (par := some 0 :: List.replicate 10 none) hf B.gb hg rfl rfl rfl rfl (by decide) (fun pm cd doc vs hv => ?_) rfl (by decide) (by decide) fun env => ?_
  · obtain ⟨x, rfl⟩ := len1 hv
    kernel_rfl
  refine WS.clear ?_
  refine WS.at' (F' := [some (.ref Rw), none, none, none, none, none, none, none, none, none, none]) ?_ ?_
  · exact ⟨rfl, trivial⟩
  refine ws_cons (ws_AssignV (fun P s st => swap_cell (i := 1) st rfl) (we_Comp (nm' := nmDC1) (oc' := false) (cap := [none, none, none]) (ix := 1) (xs := as0.map .ref) ⟨rfl, rfl, by decide, rfl, rfl, .local, rfl, .inl rfl⟩ (by rw [List.length_map, sizeLine_eq]; omega)
    (fun i ys H => ∃ cs : List Addr, cs.length = i ∧ i ≤ m ∧ ys = cs.map .ref ∧ H = rowsE A0 m cs) (fun ys H B' => B' = [] ∧ ∃ cs : List Addr, cs.length = m ∧ ys = cs.map .ref ∧ H = rowsE A0 m cs) ?_ ?_ ?_ ?_ (fun _ => rfl)))
  · refine wi_listK hR ?_
    kln_le
    refine ⟨rfl, ⟨[], rfl, Nat.zero_le _, rfl, rfl⟩, fun ys H₁ z00 => z00.elim fun cs z00 => z00.elim fun c1 z00 => z00.elim fun _ z00 => z00.elim fun c2 c3 => ⟨rfl, cs, ?_, c2, c3⟩⟩
    rw [c1, List.length_map, hm]
  · rintro cenv i ys _ a ⟨cs, c1, hi, rfl, rfl⟩ ha
    rw [List.getElem?_map] at ha
    obtain ⟨ax, hax, rfl⟩ := Option.map_eq_some_iff.mp ha
    obtain ⟨hlt, hget⟩ := List.getElem?_eq_some_iff.mp hax
    have hr := hrow i (by omega)
    rw [List.getD_eq_getElem?_getD, hax] at hr
    refine wx_noTest ⟨rfl, ?_⟩
    rw [if_pos rfl]
    refine we_listOf 2 rfl B.N.nlist B.N.list rfl rfl ?_
    kln_le
    refine ⟨ax, rowV A0 m i, rfl, .inr hr, by rw [rowV_len, sizeLine_eq]; omega, fun c => ⟨cs ++ [c], by simp [c1], by omega, by simp, ?_⟩⟩
    unfold rowsE
    rw [List.length_append, List.length_singleton, List.range_succ, List.map_append, c1]
    congr 1
    · refine List.map_congr_left fun i' hi' => ?_
      rw [List.getD_eq_getElem?_getD, List.getD_eq_getElem?_getD, List.getElem?_append_left (by have := List.mem_range.mp hi'; omega)]
    · show [(c, rowV A0 m i)] = [((cs ++ [c]).getD i 0, rowV A0 m i)]
      rw [List.getD_eq_getElem?_getD, ← c1, List.getElem?_concat_length]
      rfl
  · rintro i ys _ ⟨cs, c1, hi, rfl, rfl⟩
    rw [List.length_map]
    omega
  · rintro ys _ _ W ⟨rfl, cs, c1, rfl, rfl⟩
    refine wn_cell 1 rfl ?_
    rw [List.append_nil]
    refine WS.perm (H' := (W, cs.map .ref) :: rowsE A0 m cs) ?_ (List.perm_append_singleton _ _).symm
    refine ws_cons (ws_Assign rfl (we_int (wn_local 2 rfl ?_)))
    refine ws_cons (ws_Assign rfl (we_int (wn_local 3 rfl ?_)))
    refine ws_cons (ws_ForX (X := (Nat → Nat → Int) × Int × Int × List Addr) (xs := rangeVals 0 ((m : Nat) : Int).toNat) (fun k z => [some (.ref Rw), some (.ref W), some (I z.2.1), some (I z.2.2.1), none, none, none, none, none, none, none])
      (fun k z H => H = (W, z.2.2.2.map .ref) :: rowsE z.1 m z.2.2.2 ∧ z.2.2.2.length = m ∧ k ≤ m ∧ barF m (m - k) k z.1 z.2.1 z.2.2.1 = barF m m 0 A0 1 1 ∧ (∀ i j, (z.1 i j).natAbs ≤ bnd k) ∧ z.2.1.natAbs ≤ bnd k ∧ z.2.1 ≠ 0 ∧ (z.2.2.1 = 1 ∨ z.2.2.1 = -1)) (A0, 1, 1, cs) (fun _ => rfl) (fun _ _ => rfl) ?_ ?_ ?_ ?_)
    · exact ⟨rfl, rfl, rfl, rfl, trivial⟩
    · refine wi_range1 (k := (m : Nat)) (we_blt 9 rfl B.N.nrange B.N.range ⟨rfl, rfl⟩ rfl) rfl (we_call1 10 rfl B.N.nlen B.N.len rfl rfl ?_)
      kln_le
      refine wc_len_list (.inl (List.mem_cons_self ..)) (by rw [List.length_map, sizeLine_eq]; omega) ⟨by rw [List.length_map, c1], by omega, by omega, rfl, c1, Nat.zero_le _, rfl, hA, ?_, (by decide : (1 : Int) ≠ 0), .inl rfl⟩
      exact bnd_pos 0
    · rintro k ⟨A, a, t, as⟩ _ x ⟨rfl, hal, hkm, hbar, hbA, hba, ha0, ht⟩ hx
      obtain ⟨hk, rfl⟩ := rangeVals_get hx
      have hk : k < m := by simpa using hk
      dsimp only at hal hbar hbA hba ha0 ht ⊢
      refine wn_assign (wn_cell 4 rfl ?_)
      rw [show (0 : Int) + (k : Nat) = (k : Nat) by omega]
      generalize hH0 : (W, as.map .ref) :: rowsE A m as = H0
      have hW : (W, as.map .ref) ∈ H0 := by rw [← hH0]; exact List.mem_cons_self ..
      have hR' : ∀ i, i < m → (as.getD i 0, rowV A m i) ∈ H0 := fun i hi => by rw [← hH0]; exact List.mem_cons_of_mem _ (rowsE_mem (by omega))
      refine ws_cons (ws_AssignComp (nm' := nmDC2) (oc' := false) (cap := [none, none, some 4, some 1]) (ix := 1) (xs := rangeVals (k : Nat) (((m : Nat) : Int) - (k : Nat)).toNat) ⟨rfl, rfl, by decide, rfl, rfl, .local, rfl, .inl rfl⟩ (by rw [rangeVals_length, sizeLine_eq]; omega)
        (fun i ys H => i ≤ m - k ∧ ys = nV (picksOf A k i) ∧ H = H0) (fun ys H B' => B' = [] ∧ ys = nV (picksOf A k (m - k)) ∧ H = H0) 6 rfl (fun P s st => swap_loc st (i := 6) rfl rfl (by decide)) ?_ ?_ ?_ ?_ (fun _ => rfl))
      · refine wi_range2 (i := (k : Nat)) (k := (m : Nat)) (we_blt 9 rfl B.N.nrange B.N.range ⟨rfl, rfl⟩ rfl) rfl rfl rfl ?_
        kln_le
        refine ⟨rfl, by omega, by omega, we_call1 10 rfl B.N.nlen B.N.len rfl rfl ?_⟩
        kln_le
        refine wc_len_list (.inl hW) (by rw [List.length_map, sizeLine_eq]; omega) ⟨by rw [List.length_map, hal], by omega, by omega, ⟨Nat.zero_le _, rfl, rfl⟩, fun ys H₁ z00 => z00.elim fun _ z00 => z00.elim fun q1 q2 => ⟨rfl, ?_, q2⟩⟩
        rw [q1, rangeVals_length]
        congr 2
        omega
      · rintro cenv i ys _ x ⟨hi, rfl, rfl⟩ hx
        obtain ⟨hi2, rfl⟩ := rangeVals_get hx
        have hik : k + i < m := by omega
        have e : picksOf A k (i + 1) = picksOf A k i ++ if A (k + i) k != 0 then [k + i] else [] := by
          unfold picksOf
          rw [List.range_succ, List.map_append, List.filter_append]
          congr 1
          rw [List.map_singleton, List.filter_cons, List.filter_nil]
        refine wx_oneTest ?_
        refine wt_Compare (we_Sub (we_Sub ?_)) rfl
        kln_le
        kln_le
        refine wsub_list (xs := as.map .ref) (x := .ref (as.getD (k + i) 0)) (.inl hW) (by omega) (by omega) (by rw [show ((k : Int) + (i : Nat)).toNat = k + i by omega]; exact refs_get (by omega)) ?_ (fun _ => rfl)
        kln_le
        refine wsub_list (xs := rowV A m (k + i)) (x := I (A (k + i) k)) (.inl (hR' _ hik)) (by omega) (by omega) (by rw [Int.toNat_natCast]; exact rowV_get hk) (we_int (wc_ne ⟨_, rfl, rfl, ?_⟩)) (fun _ => rfl)
        by_cases h0 : (A (k + i) k != 0) = true
        · rw [if_pos h0]
          kln_le
          refine ⟨by omega, ?_, rfl⟩
          rw [e, if_pos h0]
          simp [nV]
        · rw [if_neg h0]
          refine ⟨by omega, ?_, rfl⟩
          rw [e, if_neg h0, List.append_nil]
      · rintro i ys _ ⟨hi, rfl, rfl⟩
        unfold picksOf nV
        rw [List.length_map]
        refine Nat.le_trans (List.length_filter_le _ _) ?_
        simp
      · rintro ys H₁ _ Dp ⟨rfl, rfl, e3⟩
        rw [List.append_nil, e3]
        have hbar1 : barF m (m - k) k A a t = barF m (m - k - 1 + 1) k A a t := by rw [show m - k - 1 + 1 = m - k by omega]
        rw [hbar1] at hbar
        rw [barF_succ] at hbar
        generalize hpk : picksOf A k (m - k) = pk at hbar
        have hpkmem : ∀ x ∈ pk, k ≤ x ∧ x < m ∧ A x k ≠ 0 := by
          intro x hx
          rw [← hpk] at hx
          obtain ⟨h1, h2⟩ := List.mem_filter.mp hx
          obtain ⟨i, hi, rfl⟩ := List.mem_map.mp h1
          have := List.mem_range.mp hi
          exact ⟨by omega, by omega, by simpa using h2⟩
        refine ws_cons (ws_IfD (pk = []) ?_ (fun h1 => ?_) fun h1 => ?_)
        · refine WT.drop (Q := fun b H' => b = decide (pk = []) ∧ (H0 ++ [(Dp, nV pk)]).Sublist H') ?_ fun b H' z00 => z00.elim fun e hsub => ⟨_, hsub, e, rfl⟩
          refine wt_Compare ?_ rfl
          kln_le
          refine we_List (wl_nil ⟨by show 0 ≤ sizeLine; rw [sizeLine_eq]; decide, fun E0 => ?_⟩)
          refine wc_eqD (.list (.inl (by simp)) (nV_data pk)) (.list (xs := []) (.inl (by simp)) .nil) (lay_ints pk) rfl (Nat.le_trans (Nat.min_le_right _ _) (by decide)) ⟨_, rfl, ?_, List.sublist_append_left _ _⟩
          cases pk with
          | nil => rfl
          | cons x r => rfl
        · refine ws_cons (ws_Return (we_int ?_))
          rw [h1] at hbar
          rw [← hbar]
        obtain ⟨p, pr, rfl⟩ : ∃ p pr, pk = p :: pr := by
          cases pk with
          | nil => exact absurd rfl h1
          | cons p pr => exact ⟨p, pr, rfl⟩
        clear h1
        obtain ⟨hkp, hpm, hpA⟩ := hpkmem p (List.mem_cons_self ..)
        dsimp only at hbar
        refine ws_nil ?_
        subst hH0
        refine ws_cons (WS.mono (Q := fun fl F' H' => fl = .next ∧ (∃ as1 : List Addr, as1.length = m ∧ H' = (W, as1.map .ref) :: rowsE (if p = k then A else swapA A k p) m as1) ∧ SubL [some (.ref Rw), some (.ref W), some (I a), some (I (if p = k then t else -t)), some (I (k : Nat)), none, none, none, none, none, none] F')
          (ws_IfD (p ≠ k) ?_ (fun h1 => ?_) fun h1 => ?_) ?_)
        · refine wt_Compare (we_Sub ?_) rfl
          kln_le
          refine we_int (wsub_list (xs := nV (p :: pr)) (x := I (p : Nat)) (.inl (by simp)) (by decide) (by decide) rfl ?_ (fun _ => rfl))
          kln_le
          refine wc_ne ⟨_, rfl, ?_, rfl⟩
          by_cases h0 : p = k
          · subst h0; simp
          · rw [decide_eq_true h0]
            simp
            omega
        · refine ws_cons (ws_Assign rfl (we_Sub ?_))
          kln_le
          kln_le
          refine wsub_list (xs := as.map .ref) (x := .ref (as.getD k 0)) (.inl (by simp)) (by omega) (by omega) (by rw [Int.toNat_natCast]; exact refs_get (by omega)) (wn_local 7 rfl ?_) (fun _ => rfl)
          refine ws_cons (ws_Store rfl (we_Sub ?_))
          kln_le
          refine we_Sub ?_
          kln_le
          refine we_int (wsub_list (xs := nV (p :: pr)) (x := I (p : Nat)) (.inl (by simp)) (by decide) (by decide) rfl ?_ (fun _ => rfl))
          refine wsub_list (xs := as.map .ref) (x := .ref (as.getD p 0)) (.inl (by simp)) (by omega) (by omega) (by rw [Int.toNat_natCast]; exact refs_get (by omega)) ?_ (fun _ => rfl)
          kln_le
          kln_le
          refine ⟨0, W, _, (k : Int), rfl, rfl, rfl, by omega, by omega, by rw [List.length_map]; omega, ?_⟩
          refine ws_cons (ws_Store rfl ?_)
          kln_le
          kln_le
          refine we_Sub ?_
          kln_le
          refine we_int (wsub_list (xs := nV (p :: pr)) (x := I (p : Nat)) (.inl (by simp)) (by decide) (by decide) rfl ?_ (fun _ => rfl))
          refine ⟨0, W, _, (p : Int), rfl, rfl, rfl, by omega, by omega, by rw [List.length_set, List.length_map]; omega, ?_⟩
          refine ws_cons (ws_Assign rfl (we_Unary ?_))
          kln_le
          refine wu_neg (wn_local 3 rfl ?_)
          refine WS.less (H' := (W, (((as.set k (as.getD p 0)).set p (as.getD k 0)).map .ref)) :: rowsE A m as) ?_ (by
            rw [List.map_set, List.map_set, Int.toNat_natCast, Int.toNat_natCast]
            exact List.Sublist.cons_cons _ (List.sublist_append_left _ _))
          refine WS.perm (H' := (W, (((as.set k (as.getD p 0)).set p (as.getD k 0)).map .ref)) :: rowsE (swapA A k p) m ((as.set k (as.getD p 0)).set p (as.getD k 0))) ?_ (List.Perm.cons _ (rowsE_swap (by omega) (by omega)))
          rw [if_neg h1, if_neg h1]
          exact ws_nil ⟨rfl, ⟨_, by simp [hal], rfl⟩, ⟨rfl, rfl, rfl, rfl, rfl, trivial⟩⟩
        · have h1 : p = k := Classical.not_not.mp h1
          rw [if_pos h1, if_pos h1]
          refine WS.less (H' := (W, as.map .ref) :: rowsE A m as) ?_ (List.sublist_append_left _ _)
          exact ws_nil ⟨rfl, ⟨as, hal, rfl⟩, ⟨rfl, rfl, rfl, rfl, rfl, trivial⟩⟩
        rintro fl F' H' ⟨rfl, ⟨as1, hal1, rfl⟩, sub⟩
        refine WS.at' sub ?_
        have hA1b : ∀ i j, ((if p = k then A else swapA A k p) i j).natAbs ≤ bnd k := by
          intro i j
          split
          · exact hbA i j
          · exact swapA_bnd hbA i j
        have hA1k : (if p = k then A else swapA A k p) k k ≠ 0 := by
          split
          · rename_i h; rw [← h] at hpA ⊢; exact hpA
          · unfold swapA sw
            rw [if_pos rfl]
            exact hpA
        have ht1 : (if p = k then t else -t) = 1 ∨ (if p = k then t else -t) = -1 := by
          split
          · exact ht
          · rcases ht with rfl | rfl
            · exact .inr rfl
            · exact .inl rfl
        generalize (if p = k then A else swapA A k p) = A1 at hbar hA1b hA1k ⊢
        generalize (if p = k then t else -t) = t1 at hbar ht1 ⊢
        refine ws_cons (ws_ForX (X := Unit) (xs := rangeVals ((k : Int) + 1) (((m : Nat) : Int) - ((k : Int) + 1)).toNat) (fun i _ => [some (.ref Rw), some (.ref W), some (I a), some (I t1), some (I (k : Nat)), none, none, none, none, none, none])
          (fun i _ H => H = (W, as1.map .ref) :: rowsE (midA A1 k a (k + 1 + i) 0) m as1) () (fun _ => rfl) (fun _ _ => rfl) ?_ ?_ ?_ ?_)
        · exact ⟨rfl, rfl, rfl, rfl, rfl, trivial⟩
        · refine wi_range2 (i := (k : Int) + 1) (k := (m : Nat)) (we_blt 9 rfl B.N.nrange B.N.range ⟨rfl, rfl⟩ rfl) rfl rfl rfl (we_BinOp ?_)
          kln_le
          refine we_int (wb_add ⟨rfl, by omega, by omega, we_call1 10 rfl B.N.nlen B.N.len rfl rfl ?_⟩)
          kln_le
          refine wc_len_list (.inl (List.mem_cons_self ..)) (by rw [List.length_map, sizeLine_eq]; omega) ⟨by rw [List.length_map, hal1], by omega, by omega, ?_⟩
          congr 1
          exact rowsE_congr fun i j _ _ => mid_none.symm
        · rintro i _ _ x rfl hx
          obtain ⟨hi, rfl⟩ := rangeVals_get hx
          have hi : k + 1 + i < m := by omega
          refine wn_assign (wn_local 5 rfl ?_)
          rw [show (k : Int) + 1 + (i : Nat) = ((k + 1 + i : Nat) : Int) by omega]
          generalize hI : k + 1 + i = i1 at hi
          refine ws_cons (ws_ForX (X := Unit) (xs := rangeVals ((k : Int) + 1) (((m : Nat) : Int) - ((k : Int) + 1)).toNat) (fun j _ => [some (.ref Rw), some (.ref W), some (I a), some (I t1), some (I (k : Nat)), some (I (i1 : Nat)), none, none, none, none, none])
            (fun j _ H => H = (W, as1.map .ref) :: rowsE (midA A1 k a i1 (k + 1 + j)) m as1) () (fun _ => rfl) (fun _ _ => rfl) ?_ ?_ ?_ ?_)
          · exact ⟨rfl, rfl, rfl, rfl, rfl, rfl, trivial⟩
          · refine wi_range2 (i := (k : Int) + 1) (k := (m : Nat)) (we_blt 9 rfl B.N.nrange B.N.range ⟨rfl, rfl⟩ rfl) rfl rfl rfl (we_BinOp ?_)
            kln_le
            refine we_int (wb_add ⟨rfl, by omega, by omega, we_call1 10 rfl B.N.nlen B.N.len rfl rfl ?_⟩)
            kln_le
            refine wc_len_list (.inl (List.mem_cons_self ..)) (by rw [List.length_map, sizeLine_eq]; omega) ⟨by rw [List.length_map, hal1], by omega, by omega, ?_⟩
            congr 1
            exact rowsE_congr fun i j _ _ => mid_start
          · rintro j _ _ x rfl hx
            obtain ⟨hj, rfl⟩ := rangeVals_get hx
            have hj : k + 1 + j < m := by omega
            refine wn_assign (wn_local 8 rfl ?_)
            rw [show (k : Int) + 1 + (j : Nat) = ((k + 1 + j : Nat) : Int) by omega]
            generalize hJ : k + 1 + j = j1 at hj
            have hki : k < i1 := by omega
            have hkj : k < j1 := by omega
            have c1 : midA A1 k a i1 j1 i1 j1 = A1 i1 j1 := mid_self
            have c2 : midA A1 k a i1 j1 k k = A1 k k := mid_rowk
            have c3 : midA A1 k a i1 j1 i1 k = A1 i1 k := mid_colk
            have c4 : midA A1 k a i1 j1 k j1 = A1 k j1 := mid_rowk
            have hnext : rowsE (setA (midA A1 k a i1 j1) i1 j1 (newA A1 k a i1 j1)) m as1 = rowsE (midA A1 k a i1 (j1 + 1)) m as1 := rowsE_congr fun i' j' _ _ => mid_next hki hkj
            have hRR : ∀ i, i < m → (as1.getD i 0, rowV (midA A1 k a i1 j1) m i) ∈ (W, as1.map .ref) :: rowsE (midA A1 k a i1 j1) m as1 := fun i hi => List.mem_cons_of_mem _ (rowsE_mem (by omega))
            refine ws_cons (ws_Store rfl ?_)
            refine we_BinOp (we_BinOp (we_BinOp (we_at (i := i1) (j := j1) rfl (List.mem_cons_self ..) (hRR i1 hi) (by omega) hj hm5 hal1 ?_ ?_ ?_)))
            · kln_le
              exact ⟨rfl, rfl⟩
            · kln_le
              exact ⟨rfl, rfl⟩
            refine we_at (i := k) (j := k) rfl (List.mem_cons_self ..) (hRR k (by omega)) (by omega) (by omega) hm5 hal1 ?_ ?_ ?_
            · kln_le
              exact ⟨rfl, rfl⟩
            · kln_le
              exact ⟨rfl, rfl⟩
            rw [c1, c2]
            refine wb_mul (mul_ok (m := k) (by omega) (hA1b _ _) (hA1b _ _)) ?_
            refine we_BinOp (we_at (i := i1) (j := k) rfl (List.mem_cons_self ..) (hRR i1 hi) (by omega) (by omega) hm5 hal1 ?_ ?_ ?_)
            · kln_le
              exact ⟨rfl, rfl⟩
            · kln_le
              exact ⟨rfl, rfl⟩
            refine we_at (i := k) (j := j1) rfl (List.mem_cons_self ..) (hRR k (by omega)) (by omega) (by omega) hm5 hal1 ?_ ?_ ?_
            · kln_le
              exact ⟨rfl, rfl⟩
            · kln_le
              exact ⟨rfl, rfl⟩
            rw [c3, c4]
            refine wb_mul (mul_ok (m := k) (by omega) (hA1b _ _) (hA1b _ _)) (wb_sub ?_)
            kln_le
            refine wb_div ha0 (div_ok (m := k) (by omega) hba) ?_
            rw [show (A1 i1 j1 * A1 k k - A1 i1 k * A1 k j1).fdiv a = newA A1 k a i1 j1 from rfl]
            refine we_Sub ?_
            kln_le
            kln_le
            refine wsub_list (xs := as1.map .ref) (x := .ref (as1.getD i1 0)) (.inl (List.mem_cons_self ..)) (by omega) (by omega) (by rw [Int.toNat_natCast]; exact refs_get (by omega)) ?_ (fun _ => rfl)
            kln_le
            refine ⟨i1 + 1, as1.getD i1 0, rowV (midA A1 k a i1 j1) m i1, (j1 : Int), rfl, rfl, ?_, by omega, by omega, by rw [rowV_len]; omega, ?_⟩
            · rw [List.getElem?_cons_succ]
              exact rowsE_get (by omega)
            · refine ws_nil ⟨(), (W, as1.map .ref) :: rowsE (midA A1 k a i1 (j1 + 1)) m as1, ⟨rfl, rfl, rfl, rfl, rfl, rfl, trivial⟩, ?_, by rw [← hJ]; rfl⟩
              rw [List.set_cons_succ, Int.toNat_natCast, rowsE_set (by omega), hnext]
              exact List.Sublist.refl _
          · rintro _ _ rfl
            rw [rangeVals_length]
            refine ws_nil ⟨(), _, ⟨rfl, rfl, rfl, rfl, rfl, trivial⟩, List.Sublist.refl _, ?_⟩
            rw [step_len hk]
            congr 1
            exact rowsE_congr fun i' j' _ hj' => (mid_row hj').trans (by rw [← hI]; rfl)
        · rintro _ _ rfl
          rw [rangeVals_length]
          have hfin : rowsE (midA A1 k a (k + 1 + (((m : Nat) : Int) - ((k : Int) + 1)).toNat) 0) m as1 = rowsE (midA A1 k a m m) m as1 := by
            rw [step_len hk]
            exact rowsE_congr fun i' j' hi' hj' => mid_all (hal1 ▸ hi')
          rw [hfin]
          refine ws_cons (ws_Assign rfl (we_at (C := midA A1 k a m m) (i := k) (j := k) rfl (List.mem_cons_self ..) (List.mem_cons_of_mem _ (rowsE_mem (by omega))) (by omega) hk hm5 hal1 ?_ ?_ ?_))
          · kln_le
            exact ⟨rfl, rfl⟩
          · kln_le
            exact ⟨rfl, rfl⟩
          have c2 : midA A1 k a m m k k = A1 k k := mid_rowk
          rw [c2]
          refine wn_local 2 rfl (ws_nil ⟨(midA A1 k a m m, A1 k k, t1, as1), _, ⟨rfl, rfl, rfl, rfl, trivial⟩, List.Sublist.refl _, rfl, hal1, hk, ?_, fun i j => midA_bnd hA1b _ _ _ _, Nat.le_trans (hA1b _ _) (bnd_le k), hA1k, ht1⟩)
          rw [show m - (k + 1) = m - k - 1 by omega]
          exact hbar
    · rintro ⟨A, a, t, as⟩ _ ⟨rfl, hal, _, hbar, hbA, hba, ha0, ht⟩
      rw [rangeVals_length, Int.toNat_natCast, Nat.sub_self] at hbar
      rw [rangeVals_length, Int.toNat_natCast] at hba
      refine ws_cons (ws_Return (we_BinOp ?_))
      kln_le
      kln_le
      refine wb_mul (mul_ok (m := m) (by omega) ?_ hba) (congrArg I hbar)
      rcases ht with rfl | rfl <;> exact bnd_pos m
end Mine
end

section
open PySem PySem.W PyProof.Rows
set_option Elab.async false
set_option linter.unusedVariables false
set_option maxRecDepth 100000
set_option maxHeartbeats 0
namespace Mine
local macro_rules | `(tactic| kln_le) => `(tactic| first
  | refine we_name 0 rfl rfl (by decide) ?_ rfl rfl | refine we_name 1 rfl rfl (by decide) ?_ rfl rfl | refine we_name 2 rfl rfl (by decide) ?_ rfl rfl | refine we_name 3 rfl rfl (by decide) ?_ rfl rfl | refine we_name 4 rfl rfl (by decide) ?_ rfl rfl | refine we_name 5 rfl rfl (by decide) ?_ rfl rfl | refine we_name 6 rfl rfl (by decide) ?_ rfl rfl | refine we_name 7 rfl rfl (by decide) ?_ rfl rfl | refine we_name 8 rfl rfl (by decide) ?_ rfl rfl | refine we_name 9 rfl rfl (by decide) ?_ rfl rfl | refine we_name 10 rfl rfl (by decide) ?_ rfl rfl | refine we_name 11 rfl rfl (by decide) ?_ rfl rfl | refine we_name 12 rfl rfl (by decide) ?_ rfl rfl | refine we_name 13 rfl rfl (by decide) ?_ rfl rfl | refine we_name 14 rfl rfl (by decide) ?_ rfl rfl | refine we_name 15 rfl rfl (by decide) ?_ rfl rfl | refine we_name 16 rfl rfl (by decide) ?_ rfl rfl | refine we_name 17 rfl rfl (by decide) ?_ rfl rfl | refine we_name 18 rfl rfl (by decide) ?_ rfl rfl | refine we_name 19 rfl rfl (by decide) ?_ rfl rfl | refine we_name 20 rfl rfl (by decide) ?_ rfl rfl)
noncomputable abbrev nmLaw : List (Str × NameKind) := [("script", .local), ("numbers", .local), ("k", .local), ("more", .local), ("end", .local), ("place", .local), ("knot", .cell), ("big", .cell), ("hidden", .local), ("fence", .local), ("text", .cell), ("costs", .cell), ("mails", .cell),
  ("far", .cell), ("i", .cell), ("done", .local), ("due", .local), ("enumerate", .globalImplicit), ("len", .globalImplicit), ("list", .globalImplicit), ("range", .globalImplicit), ("chr", .globalImplicit), ("sum", .globalImplicit), ("_law_determinant", .globalImplicit)]
noncomputable abbrev nmLM : List (Str × NameKind) := [(".0", .local), ("number", .local), ("_law_mail", .globalImplicit), ("big", .cell), ("knot", .cell), ("text", .cell)]
noncomputable abbrev nmLF1 : List (Str × NameKind) := [(".0", .local), ("j", .local), ("far", .cell), ("i", .cell)]
noncomputable abbrev nmLF2 : List (Str × NameKind) := [(".0", .local), ("j", .local), ("_levenshtein_distance", .globalImplicit), ("sum", .globalImplicit), ("costs", .cell), ("i", .cell), ("mails", .cell)]
noncomputable abbrev nmLD2 : List (Str × NameKind) := [(".0", .local), ("deed", .local), ("number", .cell)]
noncomputable abbrev nmLD1 : List (Str × NameKind) := [(".0", .local), ("number", .cell), ("range", .globalImplicit)]
/-- the k-th of the script's numbers, by its remainder by 10 ** 6 -/
noncomputable def numAt (xs : List Int) (k : Nat) : Int := xs.getD k 0
noncomputable def modAt (xs : List Int) (k : Nat) : Nat := (numAt xs k % 1000000).toNat
theorem modAt_lt (xs : List Int) (k : Nat) : modAt xs k < 1000000 := by
  have := Int.emod_lt_of_pos (numAt xs k) (by decide : (0 : Int) < 1000000)
  have := Int.emod_nonneg (numAt xs k) (by decide : (1000000 : Int) ≠ 0)
  unfold modAt
  omega
noncomputable def moreL : List Nat := [0, 0, 0, 1, 2, 4, 8]
noncomputable def numsOf (xs : List Int) : List Nat := (List.range 7).map fun k => modAt xs k + moreL.getD k 0
theorem numsOf_len (xs : List Int) : (numsOf xs).length = 7 := by simp [numsOf]
theorem numsOf_lt (xs : List Int) : ∀ x ∈ numsOf xs, x < 2 ^ 20 := by
  intro x hx
  obtain ⟨k, hk, rfl⟩ := List.mem_map.mp hx
  have h1 := modAt_lt xs k
  have h2 : ∀ k : Fin 7, moreL.getD k.val 0 ≤ 8 := by decide +kernel
  have h3 := h2 ⟨k, List.mem_range.mp hk⟩
  dsimp only at h3
  omega
noncomputable def hidNums : List Nat := [173, 847, 6150, 6155, 6156, 6157, 8203, 8204, 8205, 8288, 65279] ++ (List.range 16).map (65024 + ·)
theorem hid_get (k : Nat) (h : k < 27) : (hidNums.map fun (x : Nat) => I (x : Int))[k]? = some (I ((hidNums.getD k 0 : Nat) : Int)) ∧ hidNums.getD k 0 < 65536 := by
  have : ∀ k : Fin 27, hidNums[k.val]? = some (hidNums.getD k.val 0) ∧ hidNums.getD k.val 0 < 65536 := by decide +kernel
  have h1 := this ⟨k, h⟩
  refine ⟨?_, h1.2⟩
  rw [List.getElem?_map, h1.1]
  rfl
noncomputable def endsL : List (List Nat) := [[], [13, 10], [10], [13]]
noncomputable def knotsL : List Nat := [0x1D40A, 0x17F, 0xDF, 0xFB00, 0xFB01, 0x2122, 0x2116, 0x2120]
noncomputable def bigsL : List Nat := [65, 66, 67, 68, 69, 71, 72, 74, 80, 81, 82, 85, 86, 87, 88, 89]
noncomputable def textOf (e : List Nat) (f kn h b : Nat) : List Nat := e ++ [46] ++ [f] ++ [kn] ++ [f + 1] ++ [h] ++ [b]
theorem mk_app (a b : List Nat) : mk a ++ mk b = mk (a ++ b) := by
  show (⟨a.toArray ++ b.toArray⟩ : Str) = ⟨(a ++ b).toArray⟩
  rw [List.append_toArray]
theorem nV_get {l : List Nat} {i : Nat} (h : i < l.length) : (nV l)[i]? = some (I ((l.getD i 0 : Nat) : Int)) := by
  rw [List.getElem?_map, List.getElem?_eq_getElem h, List.getD_eq_getElem?_getD, List.getElem?_eq_getElem h]
  rfl
theorem we_strE {prog : Program} {w : World} {n : Nat} {mg mb : Str → Option Value} {K : Shared} {env : Env} {nm : List (Str × NameKind)} {oc : Bool} {F : List (Option Value)} {H : List Ent} {x y : Str} {k : Nat} {pos : Pos} {Q : Value → List Ent → Prop} (e : x = y) (h : Q (S y) H) : WE prog w n mg mb K env nm oc (eval (.Constant (.str x) k pos) env) F H Q := e ▸ we_str h
theorem St.rd {mg mb : Str → Option Value} {K : Shared} {P : List (Addr × Obj)} {env : Env} {nm : List (Str × NameKind)} {oc : Bool} {F : List (Option Value)} {H : List Ent} {s : Shared} (st : St mg mb K P env nm oc F H s) {a : Addr} {xs : List Value} (h : (a, xs) ∈ H) : RdAt s.heap a xs := (st.led _ h).1.rd
structure LawFns (mg : Str → Option Value) (h : Heap) : Prop where
  fm : FnAtX h 131 "_law_mail" (fnP 18) (fnB 18) (fnS 18)
  fd : FnAtX h 136 "_law_determinant" (fnP 19) (fnB 19) (fnS 19)
  mm : mg "_law_mail" = some (.ref 131)
  md : mg "_law_determinant" = some (.ref 136)
noncomputable abbrev u24 : List (Option Value) := [none, none, none, none, none, none, none, none, none, none, none, none, none, none, none, none, none, none, none, none, none, none, none, none]
noncomputable abbrev nones (k : Nat) : List (Option Value) := List.replicate k none
/-- a text's sign at a place -/
theorem sign_at {l : List Nat} {i : Nat} (h : i < l.length) : (seqIndex? ((i : Nat) : Int) (mk l).length).bind ((mk l).cps[·]?) = some (l.getD i 0) := by
  have e : seqIndex? ((i : Nat) : Int) (mk l).length = some i := by
    unfold seqIndex?
    rw [mk_length]
    simp
    omega
  rw [e]
  show (mk l).cps[i]? = _
  rw [List.getD_eq_getElem?_getD, List.getElem?_eq_getElem h]
  show l.toArray[i]? = _
  rw [List.getElem?_toArray, List.getElem?_eq_getElem h]
  rfl
end Mine
end

section
open PySem PySem.W PyProof.Rows
set_option Elab.async false
set_option linter.unusedVariables false
namespace Mine
/-! the distance: a common head, a common tail, an alphabet of another kind -/
theorem map_eq_iff {φ : Nat → Nat} : ∀ (a b : List Nat), (∀ x ∈ a, ∀ y ∈ b, φ x = φ y → x = y) → (a.map φ = b.map φ ↔ a = b)
  | [], [], _ => by simp
  | [], _ :: _, _ => by simp
  | _ :: _, [], _ => by simp
  | x :: a, y :: b, h => by
    rw [List.map_cons, List.map_cons, List.cons.injEq, List.cons.injEq, map_eq_iff a b fun x' hx y' hy => h x' (List.mem_cons_of_mem _ hx) y' (List.mem_cons_of_mem _ hy)]
    constructor
    · rintro ⟨h1, h2⟩
      exact ⟨h x (List.mem_cons_self ..) y (List.mem_cons_self ..) h1, h2⟩
    · rintro ⟨rfl, h2⟩
      exact ⟨rfl, h2⟩
theorem strip_map {φ : Nat → Nat} : ∀ (a b : List Nat), (∀ x ∈ a, ∀ y ∈ b, φ x = φ y → x = y) → strip (a.map φ) (b.map φ) = ((strip a b).1.map φ, (strip a b).2.map φ)
  | [], [], _ => rfl
  | [], _ :: _, _ => rfl
  | _ :: _, [], _ => rfl
  | x :: a, y :: b, h => by
    have ih := strip_map a b fun x' hx y' hy => h x' (List.mem_cons_of_mem _ hx) y' (List.mem_cons_of_mem _ hy)
    show (if φ x = φ y then strip (a.map φ) (b.map φ) else (φ x :: a.map φ, φ y :: b.map φ)) = ((if x = y then strip a b else (x :: a, y :: b)).1.map φ, (if x = y then strip a b else (x :: a, y :: b)).2.map φ)
    by_cases hc : x = y
    · rw [if_pos (congrArg φ hc), if_pos hc, ih]
    · rw [if_neg fun q => hc (h x (List.mem_cons_self ..) y (List.mem_cons_self ..) q), if_neg hc]
      rfl
theorem strip_sub : ∀ (a b : List Nat), (∀ x ∈ (strip a b).1, x ∈ a) ∧ ∀ x ∈ (strip a b).2, x ∈ b
  | [], [] => ⟨fun x h => h, fun x h => h⟩
  | [], _ :: _ => ⟨fun x h => h, fun x h => h⟩
  | _ :: _, [] => ⟨fun x h => h, fun x h => h⟩
  | x :: a, y :: b => by
    show (∀ z ∈ (if x = y then strip a b else (x :: a, y :: b)).1, _) ∧ ∀ z ∈ (if x = y then strip a b else (x :: a, y :: b)).2, _
    by_cases hc : x = y
    · rw [if_pos hc]
      have ih := strip_sub a b
      exact ⟨fun z hz => List.mem_cons_of_mem _ (ih.1 z hz), fun z hz => List.mem_cons_of_mem _ (ih.2 z hz)⟩
    · rw [if_neg hc]
      exact ⟨fun z hz => hz, fun z hz => hz⟩
theorem inner_map {φ : Nat → Nat} {cost cost' : Nat → Nat → Int} (b : Nat) : ∀ (cs : List Nat) (rs : List Int) (d r m : Int), (∀ c ∈ cs, cost (φ b) (φ c) = cost' b c) → inner cost (φ b) (cs.map φ) rs d r m = inner cost' b cs rs d r m
  | [], rs, d, r, m, _ => rfl
  | c :: cs, [], d, r, m, _ => rfl
  | c :: cs, x :: rs, d, r, m, h => by
    have ih := fun d r m => inner_map (φ := φ) (cost := cost) (cost' := cost') b cs rs d r m fun c' hc => h c' (List.mem_cons_of_mem _ hc)
    have h1 := h c (List.mem_cons_self ..)
    rw [List.map_cons]
    unfold inner
    dsimp only
    rw [h1, ih]
theorem outer_map {φ : Nat → Nat} {cost cost' : Nat → Nat → Int} {mc : Int} (a : List Nat) : ∀ (bs : List Nat) (k : Nat) (row : List Int) (r : Int), (∀ b ∈ bs, ∀ c ∈ a, cost (φ b) (φ c) = cost' b c) → outer cost mc (a.map φ) (bs.map φ) k row r = outer cost' mc a bs k row r
  | [], k, row, r, _ => rfl
  | b :: bs, k, row, r, h => by
    have ih := fun k row r => outer_map (φ := φ) (cost := cost) (cost' := cost') (mc := mc) a bs k row r fun b' hb => h b' (List.mem_cons_of_mem _ hb)
    rw [List.map_cons]
    unfold outer
    dsimp only
    rw [inner_map b a _ _ _ _ (h b (List.mem_cons_self ..)), ih]
theorem levT_map {φ : Nat → Nat} {cost cost' : Nat → Nat → Int} {mc : Int} (a b : List Nat) (h : ∀ x, x ∈ a ∨ x ∈ b → ∀ y, y ∈ a ∨ y ∈ b → cost (φ x) (φ y) = cost' x y) : levT cost mc (a.map φ) (b.map φ) = levT cost' mc a b := by
  unfold levT
  simp only [List.map_eq_nil_iff, List.length_map]
  split
  · rfl
  · split
    · rfl
    · by_cases hl : b.length < a.length
      · simp only [if_pos hl, List.length_map]
        rw [outer_map b a _ _ _ fun x hx y hy => h x (.inl hx) y (.inr hy)]
      · simp only [if_neg hl, List.length_map]
        rw [outer_map a b _ _ _ fun x hx y hy => h x (.inr hx) y (.inl hy)]
theorem lev_map {φ : Nat → Nat} {cost cost' : Nat → Nat → Int} {mc : Int} (a b : List Nat) (hi : ∀ x ∈ a, ∀ y ∈ b, φ x = φ y → x = y) (h : ∀ x, x ∈ a ∨ x ∈ b → ∀ y, y ∈ a ∨ y ∈ b → cost (φ x) (φ y) = cost' x y) :
    lev cost mc (a.map φ) (b.map φ) = lev cost' mc a b := by
  unfold lev
  by_cases hab : a = b
  · rw [if_pos (by rw [hab]), if_pos hab]
  · rw [if_neg fun q => hab ((map_eq_iff a b hi).mp q), if_neg hab]
    obtain ⟨s1, s2⟩ := strip_sub a b
    rw [strip_map a b hi]
    dsimp only
    generalize strip a b = p at s1 s2
    have hi' : ∀ x ∈ p.1.reverse, ∀ y ∈ p.2.reverse, φ x = φ y → x = y := fun x hx y hy => hi x (s1 x (List.mem_reverse.mp hx)) y (s2 y (List.mem_reverse.mp hy))
    rw [← List.map_reverse, ← List.map_reverse, strip_map _ _ hi']
    obtain ⟨t1, t2⟩ := strip_sub p.1.reverse p.2.reverse
    dsimp only
    generalize strip p.1.reverse p.2.reverse = q at t1 t2
    rw [← List.map_reverse, ← List.map_reverse]
    have m1 : ∀ x ∈ q.1.reverse, x ∈ a := fun x hx => s1 x (List.mem_reverse.mp (t1 x (List.mem_reverse.mp hx)))
    have m2 : ∀ x ∈ q.2.reverse, x ∈ b := fun x hx => s2 x (List.mem_reverse.mp (t2 x (List.mem_reverse.mp hx)))
    exact levT_map _ _ fun x hx y hy => h x (hx.imp (m1 x) (m2 x)) y (hy.imp (m1 y) (m2 y))
/-! line ends and dots -/
theorem norm_plain : ∀ (l r : List Nat), (∀ c ∈ l, c ≠ 10 ∧ c ≠ 13) → norm false (l ++ r) = l ++ norm false r
  | [], r, _ => rfl
  | c :: l, r, h => by
    obtain ⟨h1, h2⟩ := h c (List.mem_cons_self ..)
    rw [List.cons_append, norm_cons, if_neg (fun q => by simp at q), if_neg h2, if_neg h1, norm_plain l r fun c' hc => h c' (List.mem_cons_of_mem _ hc), List.cons_append]
theorem dots_plain : ∀ (l r : List Nat), (∀ c ∈ l, c ≠ 10 ∧ c ≠ 46) → ∀ b, dots b (l ++ r) = l ++ dots (b && l.isEmpty) r
  | [], r, _, b => by simp
  | c :: l, r, h, b => by
    obtain ⟨h1, h2⟩ := h c (List.mem_cons_self ..)
    have hb : (c == 10) = false := beq_eq_false_iff_ne.mpr h1
    rw [List.cons_append, dots_cons, if_neg (fun q => h2 q.2), dots_plain l r (fun c' hc => h c' (List.mem_cons_of_mem _ hc)), hb]
    simp
theorem norm_nil : norm false [] = [] := rfl
end Mine
end

section
open PySem PySem.W PyProof.Rows
set_option Elab.async false
set_option linter.unusedVariables false
set_option maxRecDepth 100000
namespace Mine
theorem low1_of {c d : Nat} (h : Unicode.lowerOf c = [d]) (hc : c ≠ 0x3A3) : low1 c = mk [d] := by
  unfold low1 Txt.lower
  rw [placed_single (⟨#[c]⟩ : Str) _ (fun _ => d) fun i c' hc' => by
    have e : (#[c] : Array Nat)[i]? = some c' := by simpa using hc'
    have ec : c' = c := by
      match i, e with
      | 0, e => exact (Option.some.inj e).symm
      | i + 1, e => simp at e
    subst ec
    unfold Unicode.lowerAt
    show (match (#[c'] : Array Nat)[i]? with | none => [] | some c => if c == 0x3A3 && Unicode.endsWord #[c'] i then [0x3C2] else Unicode.lowerOf c) = _
    rw [e]
    have hne : (c' == 0x3A3) = false := beq_eq_false_iff_ne.mpr hc
    simp only [hne, Bool.false_and, Bool.false_eq_true, if_false]
    exact h]
  simp
theorem shifted_none : ∀ (l : List (Nat × Nat × Nat)) (c : Nat), (∀ e ∈ l, c < e.1 ∨ e.2.1 < c) → Unicode.shifted l c = none
  | [], _, _ => rfl
  | (a, b, t) :: l, c, h => by
    have h1 := h _ (List.mem_cons_self ..)
    have ih := shifted_none l c fun e he => h e (List.mem_cons_of_mem _ he)
    unfold Unicode.shifted
    split
    · rfl
    · rename_i h2
      rw [if_neg (by dsimp only at h1; omega)]
      exact ih
theorem lower_cj (c : Nat) (h1 : 19968 ≤ c) (h2 : c < 40000) : Unicode.lowerOf c = [c] := by
  have hs : UnicodeData.severalLower.lookup c = none := by
    have : (c == 0x130) = false := beq_eq_false_iff_ne.mpr (by omega)
    unfold UnicodeData.severalLower UnicodeData.severalLower0
    rw [List.lookup_cons, this]
    rfl
  have hone : (UnicodeData.oneLower.all fun e => decide (e.2.1 < 19968) || decide (40000 ≤ e.1)) = true := by decide +kernel
  unfold Unicode.lowerOf Unicode.image
  rw [hs]
  dsimp only
  rw [shifted_none _ c fun e he => by
    have := List.all_eq_true.mp hone e he
    simp only [Bool.or_eq_true, decide_eq_true_eq] at this
    omega]
  rfl
/-- the table B.3 as it stands -/
noncomputable def b3T (i : Int) : Option Str := (kvs.find? fun kv => kv.1 == i).map (·.2)
theorem foldS_one {c d : Nat} (h : b3T c = none) (hl : low1 c = mk [d]) : foldS b3T c = mk [d] := by
  unfold foldS
  rw [h]
  exact hl
theorem cost_map {φ σ : Nat → Nat} {N : Nat} (hi : ∀ x y, x < N → y < N → φ x = φ y → x = y) (hσ : ∀ x, x < N → σ x < N) (hl : ∀ x, x < N → low1 (φ x) = mk [φ (σ x)]) {x y : Nat} (hx : x < N) (hy : y < N) :
    subCost (φ x) (φ y) = if x = y then 0 else if σ x = σ y then 1 else 2 := by
  unfold subCost
  by_cases h : x = y
  · rw [if_pos (congrArg φ h), if_pos h]
  · rw [if_neg fun e => h (hi x y hx hy e), if_neg h, hl x hx, hl y hy]
    by_cases h2 : σ x = σ y
    · rw [if_pos (by rw [h2]), if_pos h2]
    · rw [if_neg fun e => h2 (hi _ _ (hσ x hx) (hσ y hy) (by simpa using e)), if_neg h2]
end Mine
end

section
open PySem PySem.W PyProof.Rows
set_option Elab.async false
set_option linter.unusedVariables false
set_option maxRecDepth 100000
namespace Mine
/-! a mail's signs, by their codes -/
noncomputable def endCode (ek : Nat) (q : Bool) : List Nat := if q then (if ek = 0 then [2, 2] else [0, 1, 2, 2]) else if ek = 0 then [2] else if ek = 1 then [0, 1, 2] else if ek = 2 then [1, 2] else [0, 2]
noncomputable def knotCode (kd : Nat) : List Nat := if kd = 0 then [9] else if kd = 1 then [9, 9] else [9, 10]
noncomputable def midCode (ek kd : Nat) (q k hh s : Bool) : List Nat := endCode ek q ++ (3 :: ((if k then knotCode kd else [4]) ++ (5 :: ((if hh then [] else [6]) ++ [if s then 8 else 7]))))
noncomputable def sig (x : Nat) : Nat := if x = 7 then 8 else x
noncomputable def costC (x y : Nat) : Int := if x = y then 0 else if sig x = sig y then 1 else 2
noncomputable def k0 (ek : Nat) : Int := if ek < 2 then 2 else 4
noncomputable def k1c (kd : Nat) : Int := if kd = 0 then 2 else 4
noncomputable def ne01 (a b : Bool) : Int := if a = b then 0 else 1
noncomputable def farOk (ek kd : Nat) (q k hh s q' k' hh' s' : Bool) : Bool := lev costC (k0 ek + k1c kd + 3) (midCode ek kd q k hh s) (midCode ek kd q' k' hh' s') == k0 ek * ne01 q q' + k1c kd * ne01 k k' + 2 * ne01 hh hh' + 1 * ne01 s s'
noncomputable def bools : List Bool := [false, true]
noncomputable def allOk (ek kd : Nat) : Bool := bools.all fun q => bools.all fun k => bools.all fun hh => bools.all fun s => bools.all fun q' => bools.all fun k' => bools.all fun hh' => bools.all fun s' => farOk ek kd q k hh s q' k' hh' s'
theorem far00 : allOk 0 0 = true := by decide +kernel
theorem far01 : allOk 0 1 = true := by decide +kernel
theorem far02 : allOk 0 2 = true := by decide +kernel
theorem far10 : allOk 1 0 = true := by decide +kernel
theorem far11 : allOk 1 1 = true := by decide +kernel
theorem far12 : allOk 1 2 = true := by decide +kernel
theorem far20 : allOk 2 0 = true := by decide +kernel
theorem far21 : allOk 2 1 = true := by decide +kernel
theorem far22 : allOk 2 2 = true := by decide +kernel
theorem far30 : allOk 3 0 = true := by decide +kernel
theorem far31 : allOk 3 1 = true := by decide +kernel
theorem far32 : allOk 3 2 = true := by decide +kernel
theorem far_ok (ek kd : Nat) (he : ek < 4) (hk : kd < 3) (q k hh s q' k' hh' s' : Bool) : lev costC (k0 ek + k1c kd + 3) (midCode ek kd q k hh s) (midCode ek kd q' k' hh' s') = k0 ek * ne01 q q' + k1c kd * ne01 k k' + 2 * ne01 hh hh' + 1 * ne01 s s' := by
  have key : allOk ek kd = true := by
    have h1 : ek = 0 ∨ ek = 1 ∨ ek = 2 ∨ ek = 3 := by omega
    have h2 : kd = 0 ∨ kd = 1 ∨ kd = 2 := by omega
    rcases h1 with rfl | rfl | rfl | rfl <;> rcases h2 with rfl | rfl | rfl
    · exact far00
    · exact far01
    · exact far02
    · exact far10
    · exact far11
    · exact far12
    · exact far20
    · exact far21
    · exact far22
    · exact far30
    · exact far31
    · exact far32
  have mem : ∀ b : Bool, b ∈ bools := by decide
  unfold allOk at key
  have a1 := List.all_eq_true.mp key q (mem q)
  have a2 := List.all_eq_true.mp a1 k (mem k)
  have a3 := List.all_eq_true.mp a2 hh (mem hh)
  have a4 := List.all_eq_true.mp a3 s (mem s)
  have a5 := List.all_eq_true.mp a4 q' (mem q')
  have a6 := List.all_eq_true.mp a5 k' (mem k')
  have a7 := List.all_eq_true.mp a6 hh' (mem hh')
  have a8 := List.all_eq_true.mp a7 s' (mem s')
  exact beq_iff_eq.mp a8
theorem mid_lt : ∀ (ek : Fin 4) (kd : Fin 3) (q k hh s : Bool), (∀ c ∈ midCode ek kd q k hh s, c < 11) ∧ (midCode ek kd q k hh s).length ≤ 20 := by decide +kernel
theorem mid_knot : ∀ (ek : Fin 4) (kd : Fin 3) (q hh s : Bool), (midCode ek kd q false hh s).flatMap (fun c => if c = 4 then knotCode kd else [c]) = midCode ek kd q true hh s := by decide +kernel
theorem mid_big : ∀ (ek : Fin 4) (kd : Fin 3) (q k hh : Bool), (midCode ek kd q k hh false).flatMap (fun c => if c = 7 then [8] else [c]) = midCode ek kd q k hh true := by decide +kernel
theorem mid_hid : ∀ (ek : Fin 4) (kd : Fin 3) (q k s : Bool), (midCode ek kd q k false s).filter (fun c => !decide (c = 6)) = midCode ek kd q k true s := by decide +kernel
theorem mid_rest : ∀ (kd : Fin 3) (k hh s : Bool), ∀ c ∈ (3 :: ((if k then knotCode kd else [4]) ++ (5 :: ((if hh then [] else [6]) ++ [if s then 8 else 7])))), 3 ≤ c ∧ c < 11 := by decide +kernel
end Mine
end

section
open PySem PySem.W PyProof.Rows
set_option Elab.async false
set_option linter.unusedVariables false
set_option maxRecDepth 100000
set_option maxHeartbeats 0
namespace Mine
local macro_rules | `(tactic| kln_le) => `(tactic| first
  | refine we_name 0 rfl rfl (by decide) ?_ rfl rfl | refine we_name 1 rfl rfl (by decide) ?_ rfl rfl | refine we_name 2 rfl rfl (by decide) ?_ rfl rfl | refine we_name 3 rfl rfl (by decide) ?_ rfl rfl | refine we_name 4 rfl rfl (by decide) ?_ rfl rfl | refine we_name 5 rfl rfl (by decide) ?_ rfl rfl | refine we_name 6 rfl rfl (by decide) ?_ rfl rfl | refine we_name 7 rfl rfl (by decide) ?_ rfl rfl | refine we_name 8 rfl rfl (by decide) ?_ rfl rfl | refine we_name 9 rfl rfl (by decide) ?_ rfl rfl | refine we_name 10 rfl rfl (by decide) ?_ rfl rfl | refine we_name 11 rfl rfl (by decide) ?_ rfl rfl | refine we_name 12 rfl rfl (by decide) ?_ rfl rfl | refine we_name 13 rfl rfl (by decide) ?_ rfl rfl | refine we_name 14 rfl rfl (by decide) ?_ rfl rfl | refine we_name 15 rfl rfl (by decide) ?_ rfl rfl | refine we_name 16 rfl rfl (by decide) ?_ rfl rfl | refine we_name 17 rfl rfl (by decide) ?_ rfl rfl | refine we_name 18 rfl rfl (by decide) ?_ rfl rfl | refine we_name 19 rfl rfl (by decide) ?_ rfl rfl | refine we_name 20 rfl rfl (by decide) ?_ rfl rfl)
noncomputable def cost0 (m0 : Nat) : Int := if m0 % 4 < 2 then 2 else 4
noncomputable def cost1 (m0 : Nat) : Int := if m0 / 4 % 8 < 2 then 2 else 4
noncomputable abbrev frL (Sc Nu : Addr) (k : Option Value) (e : Option Value) (pl kn bg hd fe tx co : Option Value) (rest : List (Option Value)) : List (Option Value) := some (.ref Sc) :: some (.ref Nu) :: none :: none :: e :: pl :: kn :: bg :: hd :: fe :: tx :: co :: rest
theorem law_head {w : World} {mg mb : Str → Option Value} {b3 : Int → Option Str} {hid : Int → Bool} {s : Shared} {Sc : Addr} {xs : List Int} {n : Nat} {env : Env} {Q : Flow → List (Option Value) → List Ent → Prop} (B : Base w mg mb b3 hid s) (hS : RdAt s.heap Sc (xs.map I)) (hx : xs.length ≤ 63)
    (h : ∀ Nu el, el.length ≤ 2 → (el = [] ∨ el = [13, 10] ↔ (numsOf xs).getD 0 0 % 4 < 2) → el = endsL.getD ((numsOf xs).getD 0 0 % 4) [] → WS pw w n mg mb s env nmLaw true (execs ((fnB 20).drop 9) env)
      ([some (.ref Sc), some (.ref Nu), none, none, some (S (mk el)), some (I ((numsOf xs).getD 0 0 / 4 % 8 : Nat)), some (S (mk [knotsL.getD ((numsOf xs).getD 0 0 / 4 % 8) 0])), some (S (mk [bigsL.getD ((numsOf xs).getD 0 0 / 32 % 16) 0])), none, none,
        some (S (mk (textOf el (19968 + (numsOf xs).getD 1 0 / 27 % 20000) (knotsL.getD ((numsOf xs).getD 0 0 / 4 % 8) 0) (hidNums.getD ((numsOf xs).getD 1 0 % 27) 0) (bigsL.getD ((numsOf xs).getD 0 0 / 32 % 16) 0)))), none] ++ nones 12)
      [(Nu, nV (numsOf xs))] Q) :
    WS pw w n mg mb s env nmLaw true (execs (fnB 20) env) ([some (.ref Sc)] ++ nones 23) [] Q := by
  refine ws_cons (ws_Assign rfl (we_List (wl_nil ⟨by show 0 ≤ sizeLine; rw [sizeLine_eq]; decide, fun Nu => wn_local 1 rfl ?_⟩)))
  refine ws_cons (ws_ForE (xs := nV moreL) (fun i F H => i ≤ 7 ∧ SubL ([some (.ref Sc), some (.ref Nu)] ++ nones 22) F ∧ H = [(Nu, nV ((numsOf xs).take i))]) (fun _ => rfl) ?_ ?_ ?_)
  · refine wie_list (we_blt 17 rfl B.nenum B.enum ⟨rfl, rfl⟩ rfl) rfl <| we_List <| wl_cons rfl <| we_int <| wl_cons rfl <| we_int <| wl_cons rfl <| we_int <| wl_cons rfl <| we_int <| wl_cons rfl <| we_int <| wl_cons rfl <| we_int <| wl_cons rfl <| we_int <| wl_nil ⟨by show 7 ≤ sizeLine; rw [sizeLine_eq]; decide, fun D => ⟨D, _, rfl, rfl, Nat.zero_le _, ⟨rfl, rfl, trivial⟩, rfl⟩⟩
  · rintro i F _ a ⟨hi, sub, rfl⟩ ha
    rw [List.getElem?_map] at ha
    obtain ⟨mo, hmo, rfl⟩ := Option.map_eq_some_iff.mp ha
    obtain ⟨hlt, hget⟩ := List.getElem?_eq_some_iff.mp hmo
    have hi7 : i < 7 := hlt
    have hmo' : moreL.getD i 0 = mo := by rw [List.getD_eq_getElem?_getD, hmo]; rfl
    intro v hv
    refine WX.forget ?_ sub
    revert v hv
    refine wn_assign (wn_local 2 rfl (wn_assign (wn_local 3 rfl ?_)))
    refine ws_cons (ws_Append (fun P s st => interactive_no st) rfl rfl rfl rfl rfl ?_)
    kln_le
    refine ⟨Nu, rfl, ⟨_, List.mem_cons_self ..⟩, we_BinOp (we_IfExp (wt_Compare ?_ rfl))⟩
    kln_le
    refine we_call1 18 rfl B.N.nlen B.N.len rfl rfl ?_
    kln_le
    refine wc_len_list (.inr hS) (by rw [List.length_map, sizeLine_eq]; omega) (wc_lt ⟨_, rfl, ?_⟩)
    rw [List.length_map]
    have fin : nV ((numsOf xs).take i) ++ [I (((modAt xs i : Nat) : Int) + (mo : Nat))] = nV ((numsOf xs).take (i + 1)) := by
      have h7 := numsOf_len xs
      rw [List.take_succ_eq_append_getElem (by omega)]
      unfold nV
      rw [List.map_append]
      congr 1
      show _ = [I _]
      unfold numsOf
      rw [List.getElem_map, List.getElem_range, hmo']
      simp
    have hlen : (nV ((numsOf xs).take i)).length ≤ sizeLine := by rw [List.length_map, List.length_take, sizeLine_eq]; omega
    by_cases hk : i < xs.length
    · rw [decide_eq_true (by omega : (i : Int) < xs.length), if_pos rfl]
      refine we_BinOp (we_Sub ?_)
      kln_le
      kln_le
      refine wsub_list (xs := xs.map I) (x := I xs[i]) (.inr hS) (by omega) (by omega) (by rw [Int.toNat_natCast, List.getElem?_map, List.getElem?_eq_getElem hk]; rfl) (we_BinOp (we_int (we_int (wb_pow (by decide) (by decide) (wb_mod (by decide) ?_))))) (fun _ => rfl)
      have e : (xs[i]).fmod ((10 : Int) ^ (6 : Int).toNat) = (modAt xs i : Nat) := by
        unfold modAt numAt
        rw [List.getD_eq_getElem?_getD, List.getElem?_eq_getElem hk]
        show (xs[i]).fmod 1000000 = _
        rw [Int.fmod_eq_emod_of_nonneg _ (by decide)]
        have := Int.emod_nonneg xs[i] (by decide : (1000000 : Int) ≠ 0)
        show _ = (((xs[i] % 1000000).toNat : Nat) : Int)
        omega
      rw [e]
      kln_le
      refine wb_add ⟨0, _, rfl, hlen, ?_⟩
      rw [fin]
      exact ws_nil ⟨hi7, ⟨rfl, rfl, trivial⟩, rfl⟩
    · rw [decide_eq_false (by omega : ¬ (i : Int) < xs.length), if_neg (by decide)]
      refine we_int ?_
      have e : (0 : Int) = (modAt xs i : Nat) := by
        unfold modAt numAt
        rw [List.getD_eq_getElem?_getD, List.getElem?_eq_none (by omega)]
        rfl
      rw [e]
      kln_le
      refine wb_add ⟨0, _, rfl, hlen, ?_⟩
      rw [fin]
      exact ws_nil ⟨hi7, ⟨rfl, rfl, trivial⟩, rfl⟩
  · rintro F _ ⟨_, sub, rfl⟩
    refine WS.at' sub ?_
    rw [List.take_of_length_le (by rw [numsOf_len]; decide)]
    have hn7 := numsOf_len xs
    have hnlt := numsOf_lt xs
    generalize numsOf xs = nums at hn7 hnlt h ⊢
    have small : ∀ a b : List Nat, a.length ≤ 20 → b.length ≤ 20 → (mk a).length + (mk b).length ≤ sizeLine := fun a b ha hb => by rw [mk_length, mk_length, sizeLine_eq]; omega
    have num0 : (nV nums)[((0 : Int)).toNat]? = some (I ((nums.getD 0 0 : Nat) : Int)) := nV_get (by omega)
    have num1 : (nV nums)[((1 : Int)).toNat]? = some (I ((nums.getD 1 0 : Nat) : Int)) := nV_get (by omega)
    generalize nums.getD 0 0 = m0 at h num0 ⊢
    generalize nums.getD 1 0 = m1 at h num1 ⊢
    refine ws_cons ?_
    refine ws_Assign ?_ ?_
    · rfl
    refine we_Sub ?_
    refine we_List ?_
    refine wl_cons ?_ (we_strE (y := mk []) (by kernel_rfl) ?_)
    · rfl
    refine wl_cons ?_ (we_strE (y := mk [13, 10]) (by kernel_rfl) ?_)
    · rfl
    refine wl_cons ?_ (we_strE (y := mk [10]) (by kernel_rfl) ?_)
    · rfl
    refine wl_cons ?_ (we_strE (y := mk [13]) (by kernel_rfl) ?_)
    · rfl
    refine wl_nil ⟨by show 4 ≤ sizeLine; rw [sizeLine_eq]; decide, fun E0 => ?_⟩
    refine we_BinOp (we_Sub ?_)
    kln_le
    refine we_int (wsub_list (xs := nV nums) (x := I (m0 : Nat)) (.inl (by simp)) (by decide) (by decide) num0 (we_int (wb_mod (by decide) ?_)) (fun _ => rfl))
    rw [show ((m0 : Nat) : Int).fmod 4 = ((m0 % 4 : Nat) : Int) from fmod_nat m0 4]
    have h4 : m0 % 4 < 4 := Nat.mod_lt _ (by decide)
    have hends : ([S (mk []), S (mk [13, 10]), S (mk [10]), S (mk [13])] : List Value)[m0 % 4]? = some (S (mk (endsL.getD (m0 % 4) []))) := by
      generalize m0 % 4 = q at h4
      have : q = 0 ∨ q = 1 ∨ q = 2 ∨ q = 3 := by omega
      rcases this with rfl | rfl | rfl | rfl <;> rfl
    refine wsub_list (xs := [S (mk []), S (mk [13, 10]), S (mk [10]), S (mk [13])]) (x := S (mk (endsL.getD (m0 % 4) []))) (.inl (by simp)) (by omega) (by omega) (by rw [Int.toNat_natCast]; exact hends) (wn_local 4 rfl ?_) (fun _ => rfl)
    refine ws_cons (ws_Assign rfl (we_BinOp (we_BinOp (we_Sub ?_))))
    kln_le
    refine we_int (wsub_list (xs := nV nums) (x := I (m0 : Nat)) (.inl (by simp)) (by decide) (by decide) num0 (we_int (wb_div (by decide) (PyProof.noPylong_of_log2 (by decide)) (we_int (wb_mod (by decide) ?_)))) (fun _ => rfl))
    rw [show ((m0 : Nat) : Int).fdiv 4 = ((m0 / 4 : Nat) : Int) from fdiv_nat m0 4, show ((m0 / 4 : Nat) : Int).fmod 8 = ((m0 / 4 % 8 : Nat) : Int) from fmod_nat _ 8]
    refine wn_local 5 rfl ?_
    have h8 : m0 / 4 % 8 < 8 := Nat.mod_lt _ (by decide)
    refine ws_cons (ws_Assign rfl (we_Sub (we_strE (y := mk knotsL) (by kernel_rfl) ?_)))
    kln_le
    refine wsub_str (c := knotsL.getD (m0 / 4 % 8) 0) (Bool.or_eq_false_iff.mpr ⟨decide_eq_false (by omega), decide_eq_false (by omega)⟩) (sign_at (by exact h8)) (wn_cell 6 rfl ?_) (fun _ _ => rfl)
    have h16 : m0 / 32 % 16 < 16 := Nat.mod_lt _ (by decide)
    refine ws_cons (ws_Assign rfl (we_Sub (we_strE (y := mk bigsL) (by kernel_rfl) (we_BinOp (we_BinOp (we_Sub ?_))))))
    kln_le
    refine we_int (wsub_list (xs := nV nums) (x := I (m0 : Nat)) (.inl (by simp)) (by decide) (by decide) num0 (we_int (wb_div (by decide) (PyProof.noPylong_of_log2 (by decide)) (we_int (wb_mod (by decide) ?_)))) (fun _ => rfl))
    rw [show ((m0 : Nat) : Int).fdiv 32 = ((m0 / 32 : Nat) : Int) from fdiv_nat m0 32, show ((m0 / 32 : Nat) : Int).fmod 16 = ((m0 / 32 % 16 : Nat) : Int) from fmod_nat _ 16]
    refine wsub_str (c := bigsL.getD (m0 / 32 % 16) 0) (Bool.or_eq_false_iff.mpr ⟨decide_eq_false (by omega), decide_eq_false (by omega)⟩) (sign_at (by exact h16)) (wn_cell 7 rfl ?_) (fun _ _ => rfl)
    refine ws_cons ?_
    refine ws_Assign ?_ ?_
    · rfl
    refine we_BinOp ?_
    refine we_List ?_
    refine wl_cons ?_ (we_int ?_)
    · rfl
    refine wl_cons ?_ (we_int ?_)
    · rfl
    refine wl_cons ?_ (we_int ?_)
    · rfl
    refine wl_cons ?_ (we_int ?_)
    · rfl
    refine wl_cons ?_ (we_int ?_)
    · rfl
    refine wl_cons ?_ (we_int ?_)
    · rfl
    refine wl_cons ?_ (we_int ?_)
    · rfl
    refine wl_cons ?_ (we_int ?_)
    · rfl
    refine wl_cons ?_ (we_int ?_)
    · rfl
    refine wl_cons ?_ (we_int ?_)
    · rfl
    refine wl_cons ?_ (we_int ?_)
    · rfl
    refine wl_nil ⟨by show 11 ≤ sizeLine; rw [sizeLine_eq]; decide, fun h0 => ?_⟩
    refine we_listRange2 (a := 65024) (b := 65040) (k := 16) (we_blt 19 rfl B.N.nlist B.N.list ⟨rfl, rfl⟩ rfl) (we_blt 20 rfl B.N.nrange B.N.range ⟨rfl, rfl⟩ rfl) rfl rfl rfl rfl (by decide) (by decide) (by decide) (we_int ⟨rfl, we_int ⟨rfl, fun h1 => ?_⟩⟩)
    refine wb_addl (xs := [I 173, I 847, I 6150, I 6155, I 6156, I 6157, I 8203, I 8204, I 8205, I 8288, I 65279]) (ys := (rangeInts 65024 1 16).map I) (.inl (by simp)) (.inl (by simp)) (by show 11 + 16 ≤ sizeLine; rw [sizeLine_eq]; decide) fun Hd => wn_local 8 rfl ?_
    rw [show ([I 173, I 847, I 6150, I 6155, I 6156, I 6157, I 8203, I 8204, I 8205, I 8288, I 65279] : List Value) ++ (rangeInts 65024 1 16).map I = hidNums.map fun (x : Nat) => I (x : Int) from rfl]
    obtain ⟨hg1, hg2⟩ := hid_get (m1 % 27) (Nat.mod_lt _ (by decide))
    refine ws_cons (ws_Assign rfl (we_BinOp (we_int (we_BinOp (we_BinOp (we_Sub ?_))))))
    kln_le
    refine we_int (wsub_list (xs := nV nums) (x := I (m1 : Nat)) (.inl (by simp)) (by decide) (by decide) num1 (we_int (wb_div (by decide) (PyProof.noPylong_of_log2 (by decide)) (we_int (wb_mod (by decide) (wb_add ?_))))) (fun _ => rfl))
    rw [show ((m1 : Nat) : Int).fdiv 27 = ((m1 / 27 : Nat) : Int) from fdiv_nat m1 27, show ((m1 / 27 : Nat) : Int).fmod 20000 = ((m1 / 27 % 20000 : Nat) : Int) from fmod_nat _ 20000]
    have hf := Nat.mod_lt (m1 / 27) (by decide : 0 < 20000)
    rw [show (19968 : Int) + ((m1 / 27 % 20000 : Nat) : Int) = ((19968 + m1 / 27 % 20000 : Nat) : Int) by omega]
    have hf2 : 19968 + m1 / 27 % 20000 < 40000 := by omega
    clear hf
    refine wn_local 9 rfl ?_
    generalize hkn : knotsL.getD (m0 / 4 % 8) 0 = kn at h ⊢
    generalize hbg : bigsL.getD (m0 / 32 % 16) 0 = bg at h ⊢
    generalize 19968 + m1 / 27 % 20000 = f at h hf2 ⊢
    have hel : (endsL.getD (m0 % 4) []).length ≤ 2 := by
      generalize m0 % 4 = q at h4
      have : q = 0 ∨ q = 1 ∨ q = 2 ∨ q = 3 := by omega
      rcases this with rfl | rfl | rfl | rfl <;> decide
    have hel2 : (endsL.getD (m0 % 4) [] = [] ∨ endsL.getD (m0 % 4) [] = [13, 10]) ↔ m0 % 4 < 2 := by
      generalize m0 % 4 = q at h4
      have : q = 0 ∨ q = 1 ∨ q = 2 ∨ q = 3 := by omega
      rcases this with rfl | rfl | rfl | rfl <;> decide
    clear hends
    have hel3 : endsL.getD (m0 % 4) [] = endsL.getD (m0 % 4) [] := rfl
    generalize hel4 : endsL.getD (m0 % 4) [] = el at hel hel2 ⊢
    clear hel3
    refine ws_cons (ws_Assign rfl (we_BinOp (we_BinOp (we_BinOp (we_BinOp (we_BinOp (we_BinOp ?_)))))))
    kln_le
    refine we_strE (y := mk [46]) (by kernel_rfl) ?_
    refine wb_adds (small _ _ (by omega) (by show 1 ≤ 20; decide)) ?_
    rw [mk_app]
    refine we_call1 21 rfl B.nchr B.chr rfl rfl ?_
    kln_le
    refine wc_chr (by omega) (by omega) ?_
    rw [Int.toNat_natCast]
    refine wb_adds (y := mk [f]) (small _ _ (by simp; omega) (by show 1 ≤ 20; decide)) ?_
    rw [mk_app]
    kln_le
    refine wb_adds (y := mk [kn]) (small _ _ (by simp; omega) (by show 1 ≤ 20; decide)) ?_
    rw [mk_app]
    refine we_call1 21 rfl B.nchr B.chr rfl rfl (we_BinOp ?_)
    kln_le
    refine we_int (wb_add (wc_chr (by omega) (by omega) ?_))
    rw [show ((f : Nat) : Int) + 1 = ((f + 1 : Nat) : Int) by omega, Int.toNat_natCast]
    refine wb_adds (y := mk [f + 1]) (small _ _ (by simp; omega) (by show 1 ≤ 20; decide)) ?_
    rw [mk_app]
    refine we_call1 21 rfl B.nchr B.chr rfl rfl (we_Sub ?_)
    kln_le
    refine we_BinOp (we_Sub ?_)
    kln_le
    refine we_int (wsub_list (xs := nV nums) (x := I (m1 : Nat)) (.inl (by simp)) (by decide) (by decide) num1 (we_int (wb_mod (by decide) ?_)) (fun _ => rfl))
    rw [show ((m1 : Nat) : Int).fmod 27 = ((m1 % 27 : Nat) : Int) from fmod_nat m1 27]
    refine wsub_list (xs := hidNums.map fun (x : Nat) => I (x : Int)) (.inl (by simp)) (by omega) (by omega) (by rw [Int.toNat_natCast]; exact hg1) ?_ (fun _ => rfl)
    generalize hidNums.getD (m1 % 27) 0 = hd at h hg2 ⊢
    refine wc_chr (by omega) (by omega) ?_
    rw [Int.toNat_natCast]
    refine wb_adds (y := mk [hd]) (small _ _ (by simp; omega) (by show 1 ≤ 20; decide)) ?_
    rw [mk_app]
    kln_le
    refine wb_adds (y := mk [bg]) (small _ _ (by simp; omega) (by show 1 ≤ 20; decide)) ?_
    rw [mk_app]
    refine wn_cell 10 rfl ?_
    rw [show el ++ [46] ++ [f] ++ [kn] ++ [f + 1] ++ [hd] ++ [bg] = textOf el f kn hd bg from rfl]
    refine WS.less (H' := [(Nu, nV nums)]) ?_ (List.singleton_sublist.mpr (by simp))
    refine WS.at' ?_ (h Nu el hel hel2 hel4.symm)
    exact ⟨rfl, rfl, rfl, rfl, rfl, rfl, rfl, trivial⟩
end Mine
end

section
open PySem PySem.W PyProof.Rows
set_option Elab.async false
set_option linter.unusedVariables false
set_option maxRecDepth 100000
set_option maxHeartbeats 0
namespace Mine
local macro_rules | `(tactic| kln_le) => `(tactic| first
  | refine we_name 0 rfl rfl (by decide) ?_ rfl rfl | refine we_name 1 rfl rfl (by decide) ?_ rfl rfl | refine we_name 2 rfl rfl (by decide) ?_ rfl rfl | refine we_name 3 rfl rfl (by decide) ?_ rfl rfl | refine we_name 4 rfl rfl (by decide) ?_ rfl rfl | refine we_name 5 rfl rfl (by decide) ?_ rfl rfl | refine we_name 6 rfl rfl (by decide) ?_ rfl rfl | refine we_name 7 rfl rfl (by decide) ?_ rfl rfl | refine we_name 8 rfl rfl (by decide) ?_ rfl rfl | refine we_name 9 rfl rfl (by decide) ?_ rfl rfl | refine we_name 10 rfl rfl (by decide) ?_ rfl rfl | refine we_name 11 rfl rfl (by decide) ?_ rfl rfl | refine we_name 12 rfl rfl (by decide) ?_ rfl rfl | refine we_name 13 rfl rfl (by decide) ?_ rfl rfl | refine we_name 14 rfl rfl (by decide) ?_ rfl rfl | refine we_name 15 rfl rfl (by decide) ?_ rfl rfl | refine we_name 16 rfl rfl (by decide) ?_ rfl rfl | refine we_name 17 rfl rfl (by decide) ?_ rfl rfl | refine we_name 18 rfl rfl (by decide) ?_ rfl rfl | refine we_name 19 rfl rfl (by decide) ?_ rfl rfl | refine we_name 20 rfl rfl (by decide) ?_ rfl rfl)
theorem ends_ok : ∀ el ∈ endsL, PyData.canLay0 (.str (mk el)) = true := by decide +kernel
theorem law_costs {w : World} {mg mb : Str → Option Value} {b3 : Int → Option Str} {hid : Int → Bool} {s : Shared} {Sc Nu : Addr} {el : List Nat} {nums : List Nat} {m0 n : Nat} {kn bg tx : Value} {env : Env} {Q : Flow → List (Option Value) → List Ent → Prop} (B : Base w mg mb b3 hid s)
    (hel : el ∈ endsL) (hel2 : el = [] ∨ el = [13, 10] ↔ m0 % 4 < 2)
    (h : ∀ C, WS pw w n mg mb s env nmLaw true (execs ((fnB 20).drop 10) env) ([some (.ref Sc), some (.ref Nu), none, none, none, none, some kn, some bg, none, none, some tx, some (.ref C)] ++ nones 12) [(Nu, nV nums), (C, [I (cost0 m0), I (cost1 m0), I 2, I 1])] Q) :
    WS pw w n mg mb s env nmLaw true (execs ((fnB 20).drop 9) env) ([some (.ref Sc), some (.ref Nu), none, none, some (S (mk el)), some (I (m0 / 4 % 8 : Nat)), some kn, some bg, none, none, some tx, none] ++ nones 12) [(Nu, nV nums)] Q := by
  refine ws_cons ?_
  refine ws_Assign ?_ ?_
  · rfl
  refine we_List ?_
  refine wl_cons ?_ ?_
  · rfl
  have two : ∀ x : Nat, decide ((x : Int) < 2) = decide (x < 2) := fun x => by
    by_cases hx : x < 2
    · rw [decide_eq_true hx, decide_eq_true (by omega)]
    · rw [decide_eq_false hx, decide_eq_false (by omega)]
  refine WE.mono (Q := fun a H₁ => a = I (cost0 m0) ∧ ∃ E1 E2, H₁ = [(Nu, nV nums)] ++ [(E1, E2)]) ?_ fun a H₁ z00 => z00.elim fun e1 z00 => z00.elim fun E1 z00 => z00.elim fun E2 e2 => ?_
  · refine we_IfExp ?_
    refine WT.mono (Q := fun b H₁ => b = decide (m0 % 4 < 2) ∧ ∃ E1 E2, H₁ = [(Nu, nV nums)] ++ [(E1, E2)]) (wt_Compare ?_ rfl) fun b H₁ z00 => z00.elim fun e1 z00 => z00.elim fun E1 z00 => z00.elim fun E2 e2 => ?_
    · kln_le
      refine we_List ?_
      refine wl_cons ?_ (we_strE (y := mk []) (by kernel_rfl) ?_)
      · rfl
      refine wl_cons ?_ (we_strE (y := mk [13, 10]) (by kernel_rfl) ?_)
      · rfl
      refine wl_nil ⟨by show 2 ≤ sizeLine; rw [sizeLine_eq]; decide, fun E1 => ?_⟩
      refine wc_inD (d := .str (mk el)) (ds := [.str (mk []), .str (mk [13, 10])]) (.str _ _) (.list (xs := [S (mk []), S (mk [13, 10])]) (.inl (by simp)) (.cons (.str _ _) (.cons (.str _ _) .nil))) (ends_ok el hel) (by decide +kernel) (Nat.zero_le _) ⟨_, rfl, ?_, E1, _, rfl⟩
      have e : ([PyData.str (mk []), PyData.str (mk [13, 10])].any fun y => PyData.eqv y (.str (mk el))) = ((mk [] == mk el) || ((mk [13, 10] == mk el) || false)) := by
        simp [PyData.eqv]
      rw [e, mk_beq, mk_beq, Bool.or_false]
      by_cases hc : m0 % 4 < 2
      · rw [decide_eq_true hc]
        rcases hel2.mpr hc with rfl | rfl <;> rfl
      · rw [decide_eq_false hc]
        have h1 : ¬ ([] : List Nat) = el := fun e => hc (hel2.mp (.inl e.symm))
        have h2 : ¬ ([13, 10] : List Nat) = el := fun e => hc (hel2.mp (.inr e.symm))
        rw [decide_eq_false h1, decide_eq_false h2]
        rfl
    subst e1 e2
    unfold cost0
    by_cases hc : m0 % 4 < 2
    · rw [decide_eq_true hc, if_pos rfl, if_pos hc]
      exact we_int ⟨rfl, E1, E2, rfl⟩
    · rw [decide_eq_false hc, if_neg (by decide), if_neg hc]
      exact we_int ⟨rfl, E1, E2, rfl⟩
  subst e1 e2
  refine wl_cons ?_ ?_
  · rfl
  refine WE.mono (Q := fun a H₁ => a = I (cost1 m0) ∧ H₁ = [(Nu, nV nums)] ++ [(E1, E2)]) ?_ fun a H₁ z00 => z00.elim fun e1 e2 => ?_
  · refine we_IfExp (wt_Compare ?_ rfl)
    kln_le
    refine we_int (wc_lt ⟨_, rfl, ?_⟩)
    rw [two]
    unfold cost1
    by_cases hc : m0 / 4 % 8 < 2
    · rw [decide_eq_true hc, if_pos rfl, if_pos hc]
      exact we_int ⟨rfl, rfl⟩
    · rw [decide_eq_false hc, if_neg (by decide), if_neg hc]
      exact we_int ⟨rfl, rfl⟩
  subst e1 e2
  refine wl_cons ?_ (we_int (wl_cons ?_ (we_int ?_)))
  · rfl
  · rfl
  refine wl_nil ⟨by show 4 ≤ sizeLine; rw [sizeLine_eq]; decide, fun C => wn_cell 11 rfl ?_⟩
  refine WS.less (H' := [(Nu, nV nums), (C, [I (cost0 m0), I (cost1 m0), I 2, I 1])]) (WS.at' ?_ (h C)) ?_
  · exact ⟨rfl, rfl, rfl, rfl, rfl, rfl, trivial⟩
  · exact List.Sublist.append (List.sublist_append_left [(Nu, nV nums)] [(E1, E2)]) (List.Sublist.refl _)
end Mine
end

section
open PySem PySem.W PyProof.Rows
set_option Elab.async false
set_option linter.unusedVariables false
set_option maxRecDepth 100000
set_option maxHeartbeats 0
namespace Mine
local macro_rules | `(tactic| kln_le) => `(tactic| first
  | refine we_name 0 rfl rfl (by decide) ?_ rfl rfl | refine we_name 1 rfl rfl (by decide) ?_ rfl rfl | refine we_name 2 rfl rfl (by decide) ?_ rfl rfl | refine we_name 3 rfl rfl (by decide) ?_ rfl rfl | refine we_name 4 rfl rfl (by decide) ?_ rfl rfl | refine we_name 5 rfl rfl (by decide) ?_ rfl rfl | refine we_name 6 rfl rfl (by decide) ?_ rfl rfl | refine we_name 7 rfl rfl (by decide) ?_ rfl rfl | refine we_name 8 rfl rfl (by decide) ?_ rfl rfl | refine we_name 9 rfl rfl (by decide) ?_ rfl rfl | refine we_name 10 rfl rfl (by decide) ?_ rfl rfl | refine we_name 11 rfl rfl (by decide) ?_ rfl rfl | refine we_name 12 rfl rfl (by decide) ?_ rfl rfl | refine we_name 13 rfl rfl (by decide) ?_ rfl rfl | refine we_name 14 rfl rfl (by decide) ?_ rfl rfl | refine we_name 15 rfl rfl (by decide) ?_ rfl rfl | refine we_name 16 rfl rfl (by decide) ?_ rfl rfl | refine we_name 17 rfl rfl (by decide) ?_ rfl rfl | refine we_name 18 rfl rfl (by decide) ?_ rfl rfl | refine we_name 19 rfl rfl (by decide) ?_ rfl rfl | refine we_name 20 rfl rfl (by decide) ?_ rfl rfl)
noncomputable abbrev mV (ms : List (List Nat)) : List Value := ms.map fun l => S (mk l)
noncomputable def mlsOf (b3 : Int → Option Str) (hid : Int → Bool) (kn bg : Nat) (t : List Nat) (l : List Nat) : List (List Nat) := l.map fun num => mailOf b3 hid kn bg num t 4
section
variable {w : World} {mg mb : Str → Option Value} {b3 : Int → Option Str} {hid : Int → Bool} {s : Shared} {n : Nat} {env : Env} {oc : Bool} {F : List (Option Value)} {H : List Ent} {nm : List (Str × NameKind)}
theorem we_mail {p pos : Pos} {e1 e2 e3 e4 : Expr} {Q : Value → List Ent → Prop} {t : List Nat} {num kn bg : Nat} (B : Base w mg mb b3 hid s) (L : LawFns mg s.heap) (j : Nat) (hj : nm[j]? = some (("_law_mail" : Str), NameKind.globalImplicit)) (he1 : starEach [e1, e2, e3, e4] env = (false, eval e1 env) :: starEach [e2, e3, e4] env)
    (he2 : starEach [e2, e3, e4] env = (false, eval e2 env) :: starEach [e3, e4] env) (he3 : starEach [e3, e4] env = (false, eval e3 env) :: starEach [e4] env) (he4 : starEach [e4] env = (false, eval e4 env) :: starEach [] env)
    (hA : t.length ≤ 10) (h1 : (foldS b3 kn).length ≤ 2) (h2 : (foldS b3 bg).length ≤ 2) (hn : num < 2 ^ 30)
    (h : WE pw w (n + 9) mg mb s env nm oc (eval e1 env) F H fun a H₁ => a = S (mk t) ∧ WE pw w (n + 9) mg mb s env nm oc (eval e2 env) F H₁ fun a H₂ => a = I (num : Nat) ∧ WE pw w (n + 9) mg mb s env nm oc (eval e3 env) F H₂ fun a H₃ => a = S (mk [kn]) ∧
      WE pw w (n + 9) mg mb s env nm oc (eval e4 env) F H₃ fun a H₄ => a = S (mk [bg]) ∧ Q (S (mk (mailOf b3 hid kn bg num t 4))) H₄) :
    WE pw w (n + 9) mg mb s env nm oc (eval (.Call (.Name "_law_mail" p) [e1, e2, e3, e4] [] pos) env) F H Q := by
  refine we_Call (we_glob j hj L.mm (fun f' hf' => ?_) (by decide))
  cases hf'
  refine we_fn (m := n + 9) (Nat.le_refl _) he1 (by rw [he2, he3, he4]; rfl) L.fm.fn (wl_cons he1 (h.mono fun a H₁ z00 => z00.elim fun a1 q => wl_cons he2 (q.mono fun b H₂ z00 => z00.elim fun a2 q => wl_cons he3 (q.mono fun c H₃ z00 => z00.elim fun a3 q => wl_cons he4 (q.mono fun d H₄ z00 => z00.elim fun a4 hq => wl_nil fun s' z00 => z00.elim fun P st => ?_)))))
  subst a1 a2 a3 a4
  refine (fx_mail (n := n) (st.base B) st.gens (L.fm.keeps st.keep) hA h1 h2 hn).mono (fun v H' z00 => z00.elim fun e1 e2 => ?_) (Nat.le_refl _)
  subst e1 e2
  rw [List.append_nil]
  exact hq
end
theorem law_mails {w : World} {mg mb : Str → Option Value} {b3 : Int → Option Str} {hid : Int → Bool} {s : Shared} {Sc Nu C : Addr} {nums : List Nat} {t : List Nat} {kn bg n : Nat} {cs : List Value} {env : Env} {Q : Flow → List (Option Value) → List Ent → Prop} (B : Base w mg mb b3 hid s) (L : LawFns mg s.heap)
    (hn7 : nums.length = 7) (hnlt : ∀ x ∈ nums, x < 2 ^ 20) (ht : t.length ≤ 10) (h1 : (foldS b3 kn).length ≤ 2) (h2 : (foldS b3 bg).length ≤ 2)
    (h : ∀ M, WS pw w (n + 9) mg mb s env nmLaw true (execs ((fnB 20).drop 11) env) ([some (.ref Sc), some (.ref Nu), none, none, none, none, none, none, none, none, none, some (.ref C), some (.ref M)] ++ nones 11) [(Nu, nV nums), (C, cs), (M, mV (mlsOf b3 hid kn bg t (nums.drop 2)))] Q) :
    WS pw w (n + 9) mg mb s env nmLaw true (execs ((fnB 20).drop 10) env) ([some (.ref Sc), some (.ref Nu), none, none, none, none, some (S (mk [kn])), some (S (mk [bg])), none, none, some (S (mk t)), some (.ref C)] ++ nones 12) [(Nu, nV nums), (C, cs)] Q := by
  refine ws_cons (ws_AssignV (fun P s st => swap_cell (i := 12) st rfl) (we_Comp (nm' := nmLM) (oc' := false) (cap := [none, none, none, some 7, some 6, some 10]) (ix := 1) (xs := nV (nums.drop 2)) ⟨rfl, rfl, by decide, rfl, rfl, .local, rfl, .inl rfl⟩ (by rw [List.length_map, List.length_drop, sizeLine_eq]; omega)
    (fun i ys H => i ≤ 5 ∧ H = [(Nu, nV nums), (C, cs)] ∧ ys = mV (mlsOf b3 hid kn bg t ((nums.drop 2).take i))) (fun ys H B' => H = [(Nu, nV nums), (C, cs)] ∧ ys = mV (mlsOf b3 hid kn bg t (nums.drop 2))) ?_ ?_ ?_ ?_ (fun _ => rfl)))
  · refine wi_listN (we_SliceList (l := Nu) (xs := nV nums) (lo := some ((2 : Nat) : Int)) (hi := none) (by rw [List.length_map, sizeLine_eq]; omega) (fun _ _ => rfl) ?_)
    kln_le
    refine ⟨rfl, wp_some (we_int ⟨rfl, wp_none ⟨trivial, .inl (by simp), fun D => ⟨D, rfl, [(Nu, nV nums), (C, cs)], [], ?_, ⟨Nat.zero_le _, by rw [List.append_nil], rfl⟩, fun ys H₁ z00 => z00.elim fun _ z00 => z00.elim fun q1 q2 => ⟨q1, ?_⟩⟩⟩⟩)⟩
    · rw [pick_drop _ _ (by rw [List.length_map]; omega), ← List.map_drop]
    · rw [q2, List.length_map, List.take_length]
  · rintro cenv i ys _ a ⟨hi, rfl, rfl⟩ ha
    rw [List.getElem?_map] at ha
    obtain ⟨num, hnum, rfl⟩ := Option.map_eq_some_iff.mp ha
    obtain ⟨hlt, hget⟩ := List.getElem?_eq_some_iff.mp hnum
    have hmem := hnlt num (List.mem_of_mem_drop (List.mem_of_getElem? hnum))
    have hlt5 : i < 5 := by rw [List.length_drop] at hlt; omega
    refine wx_noTest ⟨rfl, ?_⟩
    rw [if_pos rfl]
    refine we_mail (n := n) (t := t) (num := num) (kn := kn) (bg := bg) B L 2 rfl rfl rfl rfl rfl ht h1 h2 (by omega) ?_
    kln_le
    refine ⟨rfl, ?_⟩
    kln_le
    refine ⟨rfl, ?_⟩
    kln_le
    refine ⟨rfl, ?_⟩
    kln_le
    refine ⟨rfl, hlt5, rfl, ?_⟩
    rw [List.take_succ_eq_append_getElem hlt, hget]
    simp [mlsOf, mV]
  · rintro i ys _ ⟨hi, rfl, rfl⟩
    rw [List.length_map]
    unfold mlsOf
    rw [List.length_map, List.length_take]
    omega
  · rintro ys _ B' M ⟨rfl, rfl⟩
    refine wn_cell 12 rfl ?_
    refine WS.less (H' := [(Nu, nV nums), (C, cs)] ++ [(M, mV (mlsOf b3 hid kn bg t (nums.drop 2)))]) (WS.at' ?_ (h M)) (List.Sublist.append (List.sublist_append_left _ _) (List.Sublist.refl _))
    exact ⟨rfl, rfl, rfl, rfl, trivial⟩
end Mine
end

section
open PySem PySem.W PyProof.Rows
set_option Elab.async false
set_option linter.unusedVariables false
set_option maxRecDepth 100000
set_option maxHeartbeats 0
namespace Mine
local macro_rules | `(tactic| kln_le) => `(tactic| first
  | refine we_name 0 rfl rfl (by decide) ?_ rfl rfl | refine we_name 1 rfl rfl (by decide) ?_ rfl rfl | refine we_name 2 rfl rfl (by decide) ?_ rfl rfl | refine we_name 3 rfl rfl (by decide) ?_ rfl rfl | refine we_name 4 rfl rfl (by decide) ?_ rfl rfl | refine we_name 5 rfl rfl (by decide) ?_ rfl rfl | refine we_name 6 rfl rfl (by decide) ?_ rfl rfl | refine we_name 7 rfl rfl (by decide) ?_ rfl rfl | refine we_name 8 rfl rfl (by decide) ?_ rfl rfl | refine we_name 9 rfl rfl (by decide) ?_ rfl rfl | refine we_name 10 rfl rfl (by decide) ?_ rfl rfl | refine we_name 11 rfl rfl (by decide) ?_ rfl rfl | refine we_name 12 rfl rfl (by decide) ?_ rfl rfl | refine we_name 13 rfl rfl (by decide) ?_ rfl rfl | refine we_name 14 rfl rfl (by decide) ?_ rfl rfl | refine we_name 15 rfl rfl (by decide) ?_ rfl rfl | refine we_name 16 rfl rfl (by decide) ?_ rfl rfl | refine we_name 17 rfl rfl (by decide) ?_ rfl rfl | refine we_name 18 rfl rfl (by decide) ?_ rfl rfl | refine we_name 19 rfl rfl (by decide) ?_ rfl rfl | refine we_name 20 rfl rfl (by decide) ?_ rfl rfl)
noncomputable def farD (ms : List (List Nat)) (sc : Int) (i j : Nat) : Int := lev subCost sc (ms.getD i []) (ms.getD j [])
noncomputable def farM (ms : List (List Nat)) (sc : Int) (i j : Nat) : Int := if i < 5 ∧ j < 5 then farD ms sc (min i j) (max i j) else 0
theorem mV_get {ms : List (List Nat)} {i : Nat} (h : i < ms.length) : (mV ms)[i]? = some (S (mk (ms.getD i []))) := by
  rw [List.getElem?_map, List.getElem?_eq_getElem h, List.getD_eq_getElem?_getD, List.getElem?_eq_getElem h]
  rfl
theorem getD_len {ms : List (List Nat)} {b : Nat} (h : ∀ x ∈ ms, x.length ≤ b) (m : Nat) : (ms.getD m []).length ≤ b := by
  rw [List.getD_eq_getElem?_getD]
  cases hm : ms[m]? with
  | none => exact Nat.zero_le _
  | some x => exact h x (List.mem_of_getElem? hm)
theorem rowsE_snoc (A : Nat → Nat → Int) (n : Nat) (as : List Addr) (R : Addr) : rowsE A n (as ++ [R]) = rowsE A n as ++ [(R, rowV A n as.length)] := by
  unfold rowsE
  rw [List.length_append, List.length_singleton, List.range_succ, List.map_append]
  congr 1
  · refine List.map_congr_left fun i hi => ?_
    rw [List.getD_eq_getElem?_getD, List.getD_eq_getElem?_getD, List.getElem?_append_left (List.mem_range.mp hi)]
  · show [((as ++ [R]).getD as.length 0, rowV A n as.length)] = _
    rw [List.getD_eq_getElem?_getD, List.getElem?_concat_length]
    rfl
theorem far_row (ms : List (List Nat)) (sc : Int) (i : Nat) (hi : i < 5) : ((List.range i).map fun j => I (farM ms sc j i)) ++ ((List.range (5 - i)).map fun m => I (farD ms sc i (i + m))) = rowV (farM ms sc) 5 i := by
  unfold rowV
  have e : List.range 5 = List.range i ++ (List.range (5 - i)).map (i + ·) := by
    have := List.range_add (m := 5 - i) (n := i)
    rwa [show i + (5 - i) = 5 by omega] at this
  rw [e, List.map_append, List.map_map]
  congr 1
  · refine List.map_congr_left fun j hj => ?_
    have := List.mem_range.mp hj
    unfold farM
    rw [if_pos ⟨by omega, hi⟩, if_pos ⟨hi, by omega⟩, Nat.min_comm, Nat.max_comm]
  · refine List.map_congr_left fun m hm => ?_
    show I (farD ms sc i (i + m)) = I (farM ms sc i (i + m))
    have := List.mem_range.mp hm
    unfold farM
    rw [if_pos ⟨hi, by omega⟩, Nat.min_eq_left (by omega), Nat.max_eq_right (by omega)]
theorem law_far {w : World} {mg mb : Str → Option Value} {b3 : Int → Option Str} {hid : Int → Bool} {s : Shared} {Sc Nu C M : Addr} {nums : List Nat} {ms : List (List Nat)} {c0 c1 : Int} {n : Nat} {env : Env} {Q : Flow → List (Option Value) → List Ent → Prop} (B : Base w mg mb b3 hid s)
    (hms : ms.length = 5) (hlen : ∀ x ∈ ms, x.length ≤ 200) (hc0 : 0 ≤ c0 ∧ c0 ≤ 4) (hc1 : 0 ≤ c1 ∧ c1 ≤ 4)
    (h : ∀ Fa as, as.length = 5 → WS pw w (n + 9) mg mb s env nmLaw true (execs ((fnB 20).drop 13) env) ([some (.ref Sc), some (.ref Nu), none, none, none, none, none, none, none, none, none, some (.ref C), none, some (.ref Fa)] ++ nones 10) ([(Nu, nV nums), (C, [I c0, I c1, I 2, I 1])] ++ (Fa, as.map .ref) :: rowsE (farM ms (c0 + c1 + 3)) 5 as) Q) :
    WS pw w (n + 9) mg mb s env nmLaw true (execs ((fnB 20).drop 11) env) ([some (.ref Sc), some (.ref Nu), none, none, none, none, none, none, none, none, none, some (.ref C), some (.ref M)] ++ nones 11) [(Nu, nV nums), (C, [I c0, I c1, I 2, I 1]), (M, mV ms)] Q := by
  refine ws_cons (ws_Assign rfl (we_List (wl_nil ⟨by show 0 ≤ sizeLine; rw [sizeLine_eq]; decide, fun Fa => wn_cell 13 rfl ?_⟩)))
  refine ws_cons (ws_ForX (X := List Addr) (xs := rangeVals 0 ((5 : Nat) : Int).toNat) (fun i _ => [some (.ref Sc), some (.ref Nu), none, none, none, none, none, none, none, none, none, some (.ref C), some (.ref M), some (.ref Fa)] ++ nones 10)
    (fun i as H => as.length = i ∧ H = [(Nu, nV nums), (C, [I c0, I c1, I 2, I 1]), (M, mV ms)] ++ (Fa, as.map .ref) :: rowsE (farM ms (c0 + c1 + 3)) 5 as) [] (fun _ => rfl) (fun _ _ => rfl) ?_ ?_ ?_ ?_)
  · exact ⟨rfl, rfl, rfl, rfl, rfl, trivial⟩
  · exact wi_range1 (k := 5) (we_blt 20 rfl B.N.nrange B.N.range ⟨rfl, rfl⟩ rfl) rfl (we_int ⟨rfl, by decide, by decide, rfl, rfl⟩)
  · rintro i as _ x ⟨hal, rfl⟩ hx
    obtain ⟨hi, rfl⟩ := rangeVals_get hx
    have hi5 : i < 5 := hi
    refine wn_assign (wn_cell 14 rfl ?_)
    rw [show (0 : Int) + (i : Nat) = (i : Nat) by omega]
    refine ws_cons (ws_Append (fun P s st => interactive_no st) rfl rfl rfl rfl rfl ?_)
    kln_le
    refine ⟨Fa, rfl, ⟨as.map .ref, List.mem_append_right _ (List.mem_cons_self ..)⟩, we_BinOp ?_⟩
    generalize hH0 : [(Nu, nV nums), (C, [I c0, I c1, I 2, I 1]), (M, mV ms)] ++ (Fa, as.map .ref) :: rowsE (farM ms (c0 + c1 + 3)) 5 as = H0
    have hC : (C, [I c0, I c1, I 2, I 1]) ∈ H0 := by rw [← hH0]; simp
    have hM : (M, mV ms) ∈ H0 := by rw [← hH0]; simp
    have hFa : (Fa, as.map .ref) ∈ H0 := by rw [← hH0]; simp
    have hRow : ∀ j, j < i → (as.getD j 0, rowV (farM ms (c0 + c1 + 3)) 5 j) ∈ H0 := fun j hj => by rw [← hH0]; exact List.mem_append_right _ (List.mem_cons_of_mem _ (rowsE_mem (by omega)))
    refine we_Comp (nm' := nmLF1) (oc' := false) (cap := [none, none, some 13, some 14]) (ix := 1) (xs := rangeVals 0 ((i : Nat) : Int).toNat) ⟨rfl, rfl, by decide, rfl, rfl, .local, rfl, .inl rfl⟩ (by rw [rangeVals_length, sizeLine_eq]; omega)
      (fun j ys H => j ≤ i ∧ H = H0 ∧ ys = (List.range j).map fun j => I (farM ms (c0 + c1 + 3) j i)) (fun ys H B' => H = H0 ∧ B' = [] ∧ ys = (List.range i).map fun j => I (farM ms (c0 + c1 + 3) j i)) ?_ ?_ ?_ ?_ (fun _ => rfl)
    · refine wi_range1 (k := (i : Nat)) (we_blt 20 rfl B.N.nrange B.N.range ⟨rfl, rfl⟩ rfl) rfl ?_
      kln_le
      refine ⟨rfl, by omega, by omega, ⟨Nat.zero_le _, rfl, rfl⟩, fun ys H₁ z00 => z00.elim fun _ z00 => z00.elim fun q1 q2 => ⟨q1, rfl, ?_⟩⟩
      rw [q2, rangeVals_length, Int.toNat_natCast]
    · rintro cenv j ys H₁ x ⟨hj, e1, rfl⟩ hx
      obtain ⟨hj2, rfl⟩ := rangeVals_get hx
      have hji : j < i := by simpa using hj2
      subst e1
      refine wx_noTest ⟨rfl, ?_⟩
      rw [if_pos rfl, show (0 : Int) + (j : Nat) = (j : Nat) by omega]
      refine we_Sub (we_Sub ?_)
      kln_le
      kln_le
      refine wsub_list (xs := as.map .ref) (x := .ref (as.getD j 0)) (.inl hFa) (by omega) (by omega) (by rw [Int.toNat_natCast]; exact refs_get (by omega)) ?_ (fun _ => rfl)
      kln_le
      refine wsub_list (xs := rowV (farM ms (c0 + c1 + 3)) 5 j) (x := I (farM ms (c0 + c1 + 3) j i)) (.inl (hRow j hji)) (by omega) (by omega) (by rw [Int.toNat_natCast]; exact rowV_get hi5) ⟨hji, rfl, ?_⟩ (fun _ => rfl)
      rw [List.range_succ, List.map_append]
      rfl
    · rintro j ys _ ⟨hj, rfl, rfl⟩
      simp
    · rintro ys H₁ _ D1 ⟨e1, rfl, rfl⟩
      rw [e1, List.append_nil]
      refine we_Comp (nm' := nmLF2) (oc' := false) (cap := [none, none, none, none, some 11, some 14, some 12]) (ix := 1) (xs := rangeVals ((i : Nat) : Int) (((5 : Nat) : Int) - (i : Nat)).toNat) ⟨rfl, rfl, by decide, rfl, rfl, .local, rfl, .inl rfl⟩ (by rw [rangeVals_length, sizeLine_eq]; omega)
        (fun j ys H => j ≤ 5 - i ∧ H = H0 ++ [(D1, (List.range i).map fun j => I (farM ms (c0 + c1 + 3) j i))] ∧ ys = (List.range j).map fun m => I (farD ms (c0 + c1 + 3) i (i + m)))
        (fun ys H B' => H = H0 ++ [(D1, (List.range i).map fun j => I (farM ms (c0 + c1 + 3) j i))] ∧ B' = [] ∧ ys = (List.range (5 - i)).map fun m => I (farD ms (c0 + c1 + 3) i (i + m))) ?_ ?_ ?_ ?_ (fun _ => rfl)
      · refine wi_range2 (i := (i : Nat)) (k := 5) (we_blt 20 rfl B.N.nrange B.N.range ⟨rfl, rfl⟩ rfl) rfl rfl rfl ?_
        kln_le
        refine ⟨rfl, by omega, by omega, we_int ⟨rfl, by omega, by omega, ⟨Nat.zero_le _, rfl, rfl⟩, fun ys H₁ z00 => z00.elim fun _ z00 => z00.elim fun q1 q2 => ⟨q1, rfl, ?_⟩⟩⟩
        rw [q2, rangeVals_length]
        congr 2
        omega
      · rintro cenv j ys H₁ x ⟨hj, e1, rfl⟩ hx
        obtain ⟨hj2, rfl⟩ := rangeVals_get hx
        have hji : i + j < 5 := by omega
        rw [e1]
        refine wx_noTest ⟨rfl, ?_⟩
        rw [if_pos rfl, show (i : Int) + (j : Nat) = ((i + j : Nat) : Int) by omega]
        refine we_lev (n := n) B 2 rfl rfl rfl rfl (we_Sub ?_)
        kln_le
        kln_le
        refine wsub_list (xs := mV ms) (x := S (mk (ms.getD i []))) (.inl (List.mem_append_left _ hM)) (by omega) (by omega) (by rw [Int.toNat_natCast]; exact mV_get (by omega)) (we_Sub ?_) (fun _ => rfl)
        kln_le
        kln_le
        refine wsub_list (xs := mV ms) (x := S (mk (ms.getD (i + j) []))) (.inl (List.mem_append_left _ hM)) (by omega) (by omega) (by rw [Int.toNat_natCast]; exact mV_get (by omega)) (we_call1 3 rfl B.nsum B.sum rfl rfl ?_) (fun _ => rfl)
        kln_le
        refine wc_sum (ns := [c0, c1, 2, 1]) (.inl (List.mem_append_left _ hC)) (fun x hx => ?_) (by show 4 ≤ 1000; decide) ⟨_, _, _, rfl, rfl, rfl, getD_len hlen _, getD_len hlen _, by omega, rfl, ?_⟩
        · simp only [List.mem_cons, List.not_mem_nil, or_false] at hx
          omega
        · have hs : ([c0, c1, 2, 1] : List Int).sum = c0 + c1 + 3 := by simp; omega
          rw [hs, List.range_succ, List.map_append]
          rfl
      · rintro j ys _ ⟨hj, rfl, rfl⟩
        simp
      · rintro ys H₁ _ D2 ⟨e1, rfl, rfl⟩
        rw [e1, List.append_nil]
        refine wb_addl (xs := (List.range i).map fun j => I (farM ms (c0 + c1 + 3) j i)) (ys := (List.range (5 - i)).map fun m => I (farD ms (c0 + c1 + 3) i (i + m))) (.inl (by simp)) (.inl (by simp)) (by rw [List.length_map, List.length_map, List.length_range, List.length_range, sizeLine_eq]; omega) fun R => ?_
        rw [far_row ms (c0 + c1 + 3) i hi5, ← hH0]
        refine ⟨3, as.map .ref, rfl, by rw [List.length_map, sizeLine_eq]; omega, ?_⟩
        refine ws_nil ⟨as ++ [R], _, ?_, ?_, by simp [hal], rfl⟩
        · exact ⟨rfl, rfl, rfl, rfl, rfl, trivial⟩
        · rw [rowsE_snoc, hal, List.map_append]
          show List.Sublist ((Nu, nV nums) :: (C, [I c0, I c1, I 2, I 1]) :: (M, mV ms) :: (Fa, as.map .ref ++ [.ref R]) :: (rowsE (farM ms (c0 + c1 + 3)) 5 as ++ [(R, rowV (farM ms (c0 + c1 + 3)) 5 i)])) ((Nu, nV nums) :: (C, [I c0, I c1, I 2, I 1]) :: (M, mV ms) :: (Fa, as.map .ref ++ [.ref R]) :: (rowsE (farM ms (c0 + c1 + 3)) 5 as ++ [(D1, _)] ++ [(D2, _)] ++ [(R, rowV (farM ms (c0 + c1 + 3)) 5 i)]))
          refine List.Sublist.cons_cons _ (List.Sublist.cons_cons _ (List.Sublist.cons_cons _ (List.Sublist.cons_cons _ (List.Sublist.append ?_ (List.Sublist.refl _)))))
          rw [List.append_assoc]
          exact List.sublist_append_left _ _
  · rintro as _ ⟨hal, rfl⟩
    refine WS.less (WS.at' ?_ (h Fa as (by rw [hal, rangeVals_length]; rfl))) ?_
    · exact ⟨rfl, rfl, rfl, rfl, trivial⟩
    · exact List.Sublist.cons_cons _ (List.Sublist.cons_cons _ (List.Sublist.cons _ (List.Sublist.refl _)))
end Mine
end

section
open PySem PySem.W PyProof.Rows
set_option Elab.async false
set_option linter.unusedVariables false
set_option maxRecDepth 100000
set_option maxHeartbeats 0
namespace Mine
local macro_rules | `(tactic| kln_le) => `(tactic| first
  | refine we_name 0 rfl rfl (by decide) ?_ rfl rfl | refine we_name 1 rfl rfl (by decide) ?_ rfl rfl | refine we_name 2 rfl rfl (by decide) ?_ rfl rfl | refine we_name 3 rfl rfl (by decide) ?_ rfl rfl | refine we_name 4 rfl rfl (by decide) ?_ rfl rfl | refine we_name 5 rfl rfl (by decide) ?_ rfl rfl | refine we_name 6 rfl rfl (by decide) ?_ rfl rfl | refine we_name 7 rfl rfl (by decide) ?_ rfl rfl | refine we_name 8 rfl rfl (by decide) ?_ rfl rfl | refine we_name 9 rfl rfl (by decide) ?_ rfl rfl | refine we_name 10 rfl rfl (by decide) ?_ rfl rfl | refine we_name 11 rfl rfl (by decide) ?_ rfl rfl | refine we_name 12 rfl rfl (by decide) ?_ rfl rfl | refine we_name 13 rfl rfl (by decide) ?_ rfl rfl | refine we_name 14 rfl rfl (by decide) ?_ rfl rfl | refine we_name 15 rfl rfl (by decide) ?_ rfl rfl | refine we_name 16 rfl rfl (by decide) ?_ rfl rfl | refine we_name 17 rfl rfl (by decide) ?_ rfl rfl | refine we_name 18 rfl rfl (by decide) ?_ rfl rfl | refine we_name 19 rfl rfl (by decide) ?_ rfl rfl | refine we_name 20 rfl rfl (by decide) ?_ rfl rfl)
noncomputable def doneM (l : List Nat) (i j : Nat) : Int := if j = 0 then 1 else ((l.getD i 0 / 2 ^ (j - 1) % 2 : Nat) : Int)
theorem done_row (l : List Nat) (i num : Nat) (h : l.getD i 0 = num) : [I 1] ++ ((List.range 4).map fun d => I ((num / 2 ^ d % 2 : Nat) : Int)) = rowV (doneM l) 5 i := by
  subst h
  rfl
theorem abs_mul {x y : Int} {a b : Nat} (hx : x.natAbs ≤ a) (hy : y.natAbs ≤ b) : (x * y).natAbs ≤ a * b := by rw [Int.natAbs_mul]; exact Nat.mul_le_mul hx hy
theorem barF_bnd (n : Nat) : ∀ (f k : Nat) (A : Nat → Nat → Int) (a t : Int), (∀ i j, (A i j).natAbs ≤ bnd k) → a.natAbs ≤ bnd k → (t = 1 ∨ t = -1) → (barF n f k A a t).natAbs ≤ bnd (k + f)
  | 0, k, A, a, t, hA, ha, ht => by
    show (t * a).natAbs ≤ _
    rcases ht with rfl | rfl
    · rw [Int.one_mul]; exact ha
    · rw [Int.neg_one_mul, Int.natAbs_neg]; exact ha
  | f + 1, k, A, a, t, hA, ha, ht => by
    rw [barF_succ]
    cases h : picksOf A k (n - k) with
    | nil => exact Nat.zero_le _
    | cons p pr =>
      dsimp only
      rw [show k + (f + 1) = k + 1 + f by omega]
      have hA1 : ∀ i j, ((if p = k then A else swapA A k p) i j).natAbs ≤ bnd k := by
        intro i j
        split
        · exact hA i j
        · exact hA _ _
      refine barF_bnd n f (k + 1) _ _ _ (fun i j => midA_bnd hA1 _ _ _ _) (Nat.le_trans (hA1 _ _) (bnd_le k)) ?_
      split
      · exact ht
      · rcases ht with rfl | rfl
        · exact .inr rfl
        · exact .inl rfl
section
variable {w : World} {mg mb : Str → Option Value} {b3 : Int → Option Str} {hid : Int → Bool} {s : Shared} {n : Nat} {env : Env} {oc : Bool} {F : List (Option Value)} {H : List Ent} {nm : List (Str × NameKind)}
theorem we_det {p pos : Pos} {e1 : Expr} {Q : Value → List Ent → Prop} {A : Nat → Nat → Int} (B : Base w mg mb b3 hid s) (L : LawFns mg s.heap) (j : Nat) (hj : nm[j]? = some (("_law_determinant" : Str), NameKind.globalImplicit)) (he1 : starEach [e1] env = (false, eval e1 env) :: starEach [] env)
    (hA : ∀ i j, (A i j).natAbs ≤ bnd 0) (h : WE pw w (n + 4) mg mb s env nm oc (eval e1 env) F H fun a H₁ => ∃ (R : Addr) (as : List Addr), a = .ref R ∧ as.length = 5 ∧ (R, as.map .ref) ∈ H₁ ∧ (∀ i, i < 5 → (as.getD i 0, rowV A 5 i) ∈ H₁) ∧ ∀ X, Q (I (barF 5 5 0 A 1 1)) (H₁ ++ X)) :
    WE pw w (n + 4) mg mb s env nm oc (eval (.Call (.Name "_law_determinant" p) [e1] [] pos) env) F H Q := by
  refine we_Call (we_glob j hj L.md (fun f' hf' => ?_) (by decide))
  cases hf'
  refine we_fn (m := n + 4) (Nat.le_refl _) he1 rfl L.fd.fn (wl_cons he1 (h.mono fun a H₁ z00 => z00.elim fun R z00 => z00.elim fun as z00 => z00.elim fun a1 z00 => z00.elim fun a2 z00 => z00.elim fun a3 z00 => z00.elim fun a4 hq => wl_nil fun s' z00 => z00.elim fun P st => ?_))
  subst a1
  refine (fx_det (n := n) (st.base B) st.gens (L.fd.keeps st.keep) a2 (by decide) (st.rd a3) (fun i hi => st.rd (a4 i hi)) hA).mono (fun v H' e1 => ?_) (Nat.le_refl _)
  subst e1
  exact hq H'
end
theorem law_end {w : World} {mg mb : Str → Option Value} {b3 : Int → Option Str} {hid : Int → Bool} {s : Shared} {Sc Nu C Fa : Addr} {as : List Addr} {nums : List Nat} {A : Nat → Nat → Int} {c0 c1 : Int} {n : Nat} {env : Env} (B : Base w mg mb b3 hid s) (L : LawFns mg s.heap)
    (hn7 : nums.length = 7) (has : as.length = 5) (hA : ∀ i j, (A i j).natAbs ≤ bnd 0) (hc0 : 0 ≤ c0 ∧ c0 ≤ 4) (hc1 : 0 ≤ c1 ∧ c1 ≤ 4)
    (hlaw : barF 5 5 0 A 1 1 = 8 * (c0 + c1 + 3) * c0 * c1 * 2 * 1 * (barF 5 5 0 (doneM (nums.drop 2)) 1 1) ^ 2) :
    WS pw w (n + 9) mg mb s env nmLaw true (execs ((fnB 20).drop 13) env) ([some (.ref Sc), some (.ref Nu), none, none, none, none, none, none, none, none, none, some (.ref C), none, some (.ref Fa)] ++ nones 10) ([(Nu, nV nums), (C, [I c0, I c1, I 2, I 1])] ++ (Fa, as.map .ref) :: rowsE A 5 as)
      fun fl F' H' => (match fl with | .ret a => a | _ => .none) = .bool true := by
  generalize hH0 : [(Nu, nV nums), (C, [I c0, I c1, I 2, I 1])] ++ (Fa, as.map .ref) :: rowsE A 5 as = H0
  have hNu : (Nu, nV nums) ∈ H0 := by rw [← hH0]; simp
  have hC : (C, [I c0, I c1, I 2, I 1]) ∈ H0 := by rw [← hH0]; simp
  have hFa : (Fa, as.map .ref) ∈ H0 := by rw [← hH0]; simp
  have hRow : ∀ i, i < 5 → (as.getD i 0, rowV A 5 i) ∈ H0 := fun i hi => by rw [← hH0]; exact List.mem_append_right _ (List.mem_cons_of_mem _ (rowsE_mem (by omega)))
  clear hH0
  refine ws_cons (ws_AssignComp (nm' := nmLD1) (oc' := true) (cap := [none, none, none]) (ix := 1) (xs := nV (nums.drop 2)) ⟨rfl, rfl, by decide, rfl, rfl, .cell, rfl, .inr ⟨rfl, rfl⟩⟩ (by rw [List.length_map, List.length_drop, sizeLine_eq]; omega)
    (fun i ys H => ∃ ds : List Addr, ds.length = i ∧ i ≤ 5 ∧ ys = ds.map .ref ∧ H = H0 ++ rowsE (doneM (nums.drop 2)) 5 ds) (fun ys H B' => ∃ ds : List Addr, ds.length = 5 ∧ ys = ds.map .ref ∧ H = H0 ++ rowsE (doneM (nums.drop 2)) 5 ds) 15 rfl (fun P s st => swap_loc st (i := 15) rfl rfl (by decide)) ?_ ?_ ?_ ?_ (fun _ => rfl))
  · refine wi_listN (we_SliceList (l := Nu) (xs := nV nums) (lo := some ((2 : Nat) : Int)) (hi := none) (by rw [List.length_map, sizeLine_eq]; omega) (fun _ _ => rfl) ?_)
    kln_le
    refine ⟨rfl, wp_some (we_int ⟨rfl, wp_none ⟨trivial, .inl hNu, fun D => ⟨D, rfl, H0, [], ?_, ⟨[], rfl, Nat.zero_le _, rfl, by simp [rowsE]⟩, fun ys H₁ z00 => z00.elim fun ds z00 => z00.elim fun q1 z00 => z00.elim fun _ z00 => z00.elim fun q2 q3 => ⟨ds, ?_, q2, q3⟩⟩⟩⟩)⟩
    · rw [pick_drop _ _ (by rw [List.length_map]; omega), ← List.map_drop]
    · rw [q1, List.length_map, List.length_drop]
      omega
  · rintro cenv i ys _ a ⟨ds, hds, hi, rfl, rfl⟩ ha
    rw [List.getElem?_map] at ha
    obtain ⟨num, hnum, rfl⟩ := Option.map_eq_some_iff.mp ha
    obtain ⟨hlt, hget⟩ := List.getElem?_eq_some_iff.mp hnum
    have hi5 : i < 5 := by rw [List.length_drop] at hlt; omega
    have hnm : (nums.drop 2).getD i 0 = num := by rw [List.getD_eq_getElem?_getD, hnum]; rfl
    refine wx_noTest ⟨rfl, ?_⟩
    rw [if_pos rfl]
    generalize hH1 : H0 ++ rowsE (doneM (nums.drop 2)) 5 ds = H1
    refine WE.drop (Q := fun v H' => ∃ R O1 O2, v = .ref R ∧ H' = H1 ++ [O1] ++ [O2] ++ [(R, rowV (doneM (nums.drop 2)) 5 i)]) ?_ fun v H' z00 => z00.elim fun R z00 => z00.elim fun O1 z00 => z00.elim fun O2 z00 => z00.elim fun e1 e2 => ⟨H1 ++ [(R, rowV (doneM (nums.drop 2)) 5 i)], ?_, ds ++ [R], by simp [hds], hi5, ?_, ?_⟩
    · refine we_BinOp (we_List (wl_cons rfl (we_int (wl_nil ⟨by show 1 ≤ sizeLine; rw [sizeLine_eq]; decide, fun O1 => ?_⟩))))
      refine we_Comp (nm' := nmLD2) (oc' := false) (cap := [none, none, some 1]) (ix := 1) (xs := rangeVals 0 ((4 : Nat) : Int).toNat) ⟨rfl, rfl, by decide, rfl, rfl, .local, rfl, .inl rfl⟩ (by rw [rangeVals_length, sizeLine_eq]; decide)
        (fun d ys H => d ≤ 4 ∧ H = H1 ++ [(O1, [I 1])] ∧ ys = (List.range d).map fun d => I ((num / 2 ^ d % 2 : Nat) : Int)) (fun ys H B' => H = H1 ++ [(O1, [I 1])] ∧ B' = [] ∧ ys = (List.range 4).map fun d => I ((num / 2 ^ d % 2 : Nat) : Int)) ?_ ?_ ?_ ?_ (fun _ => rfl)
      · exact wi_range1 (k := 4) (we_blt 2 rfl B.N.nrange B.N.range ⟨rfl, rfl⟩ rfl) rfl (we_int ⟨rfl, by decide, by decide, ⟨Nat.zero_le _, rfl, rfl⟩, fun ys H₁ z00 => z00.elim fun _ z00 => z00.elim fun q1 q2 => ⟨q1, rfl, q2⟩⟩)
      · rintro denv d ys H₁ x ⟨hd, e1, rfl⟩ hx
        obtain ⟨hd2, rfl⟩ := rangeVals_get hx
        have hd4 : d < 4 := hd2
        subst e1
        refine wx_noTest ⟨rfl, ?_⟩
        rw [if_pos rfl, show (0 : Int) + (d : Nat) = (d : Nat) by omega]
        have p2 : (2 : Int) ^ (d : Int).toNat = ((2 ^ d : Nat) : Int) := by rw [Int.toNat_natCast]; simp
        have pb : Builtin.Int.intBits 2 * (d : Int) ≤ 2 ^ 27 := by
          have : d = 0 ∨ d = 1 ∨ d = 2 ∨ d = 3 := by omega
          rcases this with rfl | rfl | rfl | rfl <;> decide
        have pl : ((2 : Int) ^ (d : Int).toNat).natAbs.log2 < 9000 := by
          have : d = 0 ∨ d = 1 ∨ d = 2 ∨ d = 3 := by omega
          rcases this with rfl | rfl | rfl | rfl <;> decide
        have pz : (2 : Int) ^ (d : Int).toNat ≠ 0 := by
          have : d = 0 ∨ d = 1 ∨ d = 2 ∨ d = 3 := by omega
          rcases this with rfl | rfl | rfl | rfl <;> decide
        refine we_BinOp (we_BinOp ?_)
        kln_le
        refine we_BinOp (we_int ?_)
        kln_le
        refine wb_pow (by omega) pb (wb_div pz (PyProof.noPylong_of_log2 pl) (we_int (wb_mod (by decide) ⟨hd4, rfl, ?_⟩)))
        rw [p2, fdiv_nat, show ((num / 2 ^ d : Nat) : Int).fmod 2 = ((num / 2 ^ d % 2 : Nat) : Int) from fmod_nat _ 2, List.range_succ, List.map_append]
        rfl
      · rintro d ys _ ⟨hd, rfl, rfl⟩
        simp
      · rintro ys H₁ _ O2 ⟨e1, rfl, rfl⟩
        rw [e1, List.append_nil]
        refine wb_addl (xs := [I 1]) (ys := (List.range 4).map fun d => I ((num / 2 ^ d % 2 : Nat) : Int)) (.inl (by simp)) (.inl (by simp)) (by show 1 + 4 ≤ sizeLine; rw [sizeLine_eq]; decide) fun R => ⟨R, (O1, [I 1]), (O2, (List.range 4).map fun d => I ((num / 2 ^ d % 2 : Nat) : Int)), rfl, ?_⟩
        rw [done_row _ i num hnm]
    · rw [e2]
      refine List.Sublist.append ?_ (List.Sublist.refl _)
      rw [List.append_assoc]
      exact List.sublist_append_left _ _
    · rw [e1]; simp
    · rw [rowsE_snoc, hds, ← hH1, List.append_assoc]
  · rintro i ys _ ⟨ds, hds, hi, rfl, rfl⟩
    rw [List.length_map]
    omega
  · rintro ys _ B' Dn ⟨ds, hds, rfl, rfl⟩
    refine WS.less (H' := H0 ++ rowsE (doneM (nums.drop 2)) 5 ds ++ [(Dn, ds.map .ref)]) ?_ (List.Sublist.append (List.sublist_append_left _ _) (List.Sublist.refl _))
    generalize hH1 : H0 ++ rowsE (doneM (nums.drop 2)) 5 ds ++ [(Dn, ds.map .ref)] = H1
    have hsub : ∀ x ∈ H0, x ∈ H1 := fun x hx => by rw [← hH1]; simp [hx]
    have hDn : (Dn, ds.map .ref) ∈ H1 := by rw [← hH1]; simp
    have hDr : ∀ i, i < 5 → (ds.getD i 0, rowV (doneM (nums.drop 2)) 5 i) ∈ H1 := fun i hi => by rw [← hH1]; exact List.mem_append_left _ (List.mem_append_right _ (rowsE_mem (by omega)))
    clear hH1
    have hdA : ∀ i j, (doneM (nums.drop 2) i j).natAbs ≤ bnd 0 := by
      intro i j
      have : bnd 0 = 16 := by decide
      rw [this]
      unfold doneM
      split
      · decide
      · omega
    have hdb := barF_bnd 5 5 0 (doneM (nums.drop 2)) 1 1 hdA (bnd_pos 0) (.inl rfl)
    have hb5 : bnd 5 * bnd 5 ≤ bnd 6 := by have : bnd 5 * bnd 5 + bnd 5 * bnd 5 = bnd 6 := bnd_succ 5; omega
    have b26 : 2816 ≤ bnd 6 := Nat.le_trans (by decide : 2816 ≤ bnd 2) (bnd_mono (by decide))
    have ok : ∀ {x y : Int} {a b : Nat}, x.natAbs ≤ a → y.natAbs ≤ b → a ≤ bnd 6 → b ≤ bnd 6 → IntMulOk x y := fun hx hy ha hb => mul_ok (m := 6) (by decide) (Nat.le_trans hx ha) (Nat.le_trans hy hb)
    have n8 : (8 : Int).natAbs ≤ 8 := by decide
    have ns : (c0 + c1 + 3).natAbs ≤ 11 := by omega
    have nc0 : c0.natAbs ≤ 4 := by omega
    have nc1 : c1.natAbs ≤ 4 := by omega
    have m1 := abs_mul n8 ns
    have m2 := abs_mul m1 nc0
    have m3 := abs_mul m2 nc1
    have m4 := abs_mul m3 (by decide : (2 : Int).natAbs ≤ 2)
    have m5 := abs_mul m4 (by decide : (1 : Int).natAbs ≤ 1)
    have hsum : ([c0, c1, 2, 1] : List Int).sum = c0 + c1 + 3 := by simp; omega
    refine ws_cons (ws_Assign rfl (we_BinOp (we_BinOp (we_BinOp (we_BinOp (we_BinOp (we_BinOp (we_int (we_call1 22 rfl B.nsum B.sum rfl rfl ?_)))))))))
    kln_le
    refine wc_sum (ns := [c0, c1, 2, 1]) (.inl (hsub _ hC)) (fun x hx => ?_) (by show 4 ≤ 1000; decide) ?_
    · simp only [List.mem_cons, List.not_mem_nil, or_false] at hx
      omega
    rw [hsum]
    refine wb_mul (ok n8 ns (by omega) (by omega)) (we_Sub ?_)
    kln_le
    refine we_int (wsub_list (xs := [I c0, I c1, I 2, I 1]) (x := I c0) (.inl (hsub _ hC)) (by decide) (by decide) rfl (wb_mul (ok m1 nc0 (by omega) (by omega)) (we_Sub ?_)) (fun _ => rfl))
    kln_le
    refine we_int (wsub_list (xs := [I c0, I c1, I 2, I 1]) (x := I c1) (.inl (hsub _ hC)) (by decide) (by decide) rfl (wb_mul (ok m2 nc1 (by omega) (by omega)) (we_Sub ?_)) (fun _ => rfl))
    kln_le
    refine we_int (wsub_list (xs := [I c0, I c1, I 2, I 1]) (x := I 2) (.inl (hsub _ hC)) (by decide) (by decide) rfl (wb_mul (ok m3 (by decide : (2 : Int).natAbs ≤ 2) (by omega) (by omega)) (we_Sub ?_)) (fun _ => rfl))
    kln_le
    refine we_int (wsub_list (xs := [I c0, I c1, I 2, I 1]) (x := I 1) (.inl (hsub _ hC)) (by decide) (by decide) rfl (wb_mul (ok m4 (by decide : (1 : Int).natAbs ≤ 1) (by omega) (by omega)) (we_BinOp ?_)) (fun _ => rfl))
    refine we_det (n := n + 5) (A := doneM (nums.drop 2)) B L 23 rfl rfl hdA ?_
    kln_le
    refine ⟨Dn, ds, rfl, hds, hDn, hDr, fun X => ?_⟩
    generalize barF 5 5 0 (doneM (nums.drop 2)) 1 1 = dv at hlaw hdb ⊢
    have hbits : (Builtin.Int.intBits dv : Int) * 2 ≤ 2 ^ 27 := by
      have := log_small (m := 5) (by decide) hdb
      have : Builtin.Int.intBits dv ≤ 2001 := by
        unfold Builtin.Int.intBits
        split <;> omega
      omega
    have hsq : (dv ^ (2 : Int).toNat).natAbs ≤ bnd 6 := by
      have e : dv ^ (2 : Int).toNat = dv * dv := by
        show dv ^ 2 = _
        rw [Int.pow_succ, Int.pow_succ, Int.pow_zero, Int.one_mul]
      rw [e]
      exact Nat.le_trans (abs_mul hdb hdb) hb5
    refine we_int (wb_pow (by decide) hbits (wb_mul (ok m5 hsq (by omega) (Nat.le_refl _)) (wn_local 16 rfl ?_)))
    refine WS.less (H' := H1) ?_ (List.sublist_append_left _ _)
    refine ws_cons (ws_Return (we_Compare ?_ rfl))
    refine we_det (n := n + 5) (A := A) B L 23 rfl rfl hA ?_
    kln_le
    refine ⟨Fa, as, rfl, has, hsub _ hFa, fun i hi => hsub _ (hRow i hi), fun X => ?_⟩
    kln_le
    refine wc_eq ?_
    show Value.bool _ = .bool true
    congr 1
    rw [beq_iff_eq]
    exact hlaw
end Mine
end

section
open PySem PySem.W PyProof.Rows
set_option Elab.async false
set_option linter.unusedVariables false
set_option maxRecDepth 100000
set_option maxHeartbeats 0
namespace Mine
/-- the mails of the law -/
noncomputable def mailsL (b3 : Int → Option Str) (hid : Int → Bool) (nums : List Nat) : List (List Nat) :=
  mlsOf b3 hid (knotsL.getD (nums.getD 0 0 / 4 % 8) 0) (bigsL.getD (nums.getD 0 0 / 32 % 16) 0) (textOf (endsL.getD (nums.getD 0 0 % 4) []) (19968 + nums.getD 1 0 / 27 % 20000) (knotsL.getD (nums.getD 0 0 / 4 % 8) 0) (hidNums.getD (nums.getD 1 0 % 27) 0) (bigsL.getD (nums.getD 0 0 / 32 % 16) 0)) (nums.drop 2)
structure PlainLaw (b3 : Int → Option Str) (hid : Int → Bool) (nums : List Nat) : Prop where
  f1 : (foldS b3 (knotsL.getD (nums.getD 0 0 / 4 % 8) 0)).length ≤ 2
  f2 : (foldS b3 (bigsL.getD (nums.getD 0 0 / 32 % 16) 0)).length ≤ 2
  len : ∀ x ∈ mailsL b3 hid nums, x.length ≤ 200
  small : ∀ i j, (farM (mailsL b3 hid nums) (cost0 (nums.getD 0 0) + cost1 (nums.getD 0 0) + 3) i j).natAbs ≤ bnd 0
  law : barF 5 5 0 (farM (mailsL b3 hid nums) (cost0 (nums.getD 0 0) + cost1 (nums.getD 0 0) + 3)) 1 1 = 8 * (cost0 (nums.getD 0 0) + cost1 (nums.getD 0 0) + 3) * cost0 (nums.getD 0 0) * cost1 (nums.getD 0 0) * 2 * 1 * (barF 5 5 0 (doneM (nums.drop 2)) 1 1) ^ 2
theorem ends_mem (m : Nat) : endsL.getD (m % 4) [] ∈ endsL := by
  have h4 : m % 4 < 4 := Nat.mod_lt _ (by decide)
  generalize m % 4 = q at h4
  have : q = 0 ∨ q = 1 ∨ q = 2 ∨ q = 3 := by omega
  rcases this with rfl | rfl | rfl | rfl <;> decide
theorem fx_law {w : World} {mg mb : Str → Option Value} {b3 : Int → Option Str} {hid : Int → Bool} {s : Shared} {Sc : Addr} {xs : List Int} {n : Nat} (B : Base w mg mb b3 hid s) (hg : s.gens = #[]) (hf : FnAtX s.heap 141 "law" (fnP 20) (fnB 20) (fnS 20))
    (hS : RdAt s.heap Sc (xs.map I)) (hx : xs.length ≤ 63) (L : LawFns mg s.heap) (P : PlainLaw b3 hid (numsOf xs)) : FX pw w (n + 13) 141 [.ref Sc] s fun v H => v = .bool true := by
  refine fx_body (n := n + 9) (nm := nmLaw) (ps := ["script"]) (par := some 0 :: List.replicate 23 none) hf B.gb hg rfl rfl rfl rfl (by decide) (fun pm cd doc vs hv => ?_) rfl (by decide) (by decide) fun env => ?_
  · obtain ⟨x, rfl⟩ := len1 hv
    kernel_rfl
  refine WS.clear ?_
  refine WS.at' (F' := [some (.ref Sc)] ++ nones 23) ?_ ?_
  · exact ⟨rfl, trivial⟩
  have hn7 := numsOf_len xs
  have hnlt := numsOf_lt xs
  refine law_head B hS hx fun Nu el hel hel2 hel3 => ?_
  generalize numsOf xs = nums at hn7 hnlt P hel2 hel3 ⊢
  obtain ⟨f1, f2, hlen, hsmall, hlaw⟩ := P
  have c0 : 0 ≤ cost0 (nums.getD 0 0) ∧ cost0 (nums.getD 0 0) ≤ 4 := by unfold cost0; split <;> decide
  have c1 : 0 ≤ cost1 (nums.getD 0 0) ∧ cost1 (nums.getD 0 0) ≤ 4 := by unfold cost1; split <;> decide
  refine law_costs B (by rw [hel3]; exact ends_mem _) hel2 fun C => ?_
  refine law_mails B L hn7 hnlt (by simp [textOf]; omega) f1 f2 fun M => ?_
  subst hel3
  have hml : mlsOf b3 hid (knotsL.getD (nums.getD 0 0 / 4 % 8) 0) (bigsL.getD (nums.getD 0 0 / 32 % 16) 0) (textOf (endsL.getD (nums.getD 0 0 % 4) []) (19968 + nums.getD 1 0 / 27 % 20000) (knotsL.getD (nums.getD 0 0 / 4 % 8) 0) (hidNums.getD (nums.getD 1 0 % 27) 0) (bigsL.getD (nums.getD 0 0 / 32 % 16) 0)) (nums.drop 2) = mailsL b3 hid nums := rfl
  rw [hml]
  have hms : (mailsL b3 hid nums).length = 5 := by simp [mailsL, mlsOf, hn7]
  refine law_far B hms hlen c0 c1 fun Fa as has => ?_
  exact law_end B L hn7 has hsmall c0 c1 hlaw
end Mine
end

section
open PySem PySem.W PyProof.Rows
set_option Elab.async false
set_option linter.unusedVariables false
set_option maxRecDepth 100000
namespace Mine
noncomputable def hidT (i : Int) : Bool := (hidNums.map fun (x : Nat) => (x : Int)).contains i
noncomputable def alph (f kn h bg k1 k2 : Nat) (k : Nat) : Nat := [13, 10, 46, f, kn, f + 1, h, bg, bg + 32, k1, k2].getD k 0
structure Signs (b3 : Int → Option Str) (hid : Int → Bool) (kd f kn h bg k1 k2 : Nat) : Prop where
  knot : foldS b3 kn = mk ((knotCode kd).map (alph f kn h bg k1 k2))
  big : foldS b3 bg = mk [bg + 32]
  hid : ∀ k, k < 11 → hid (alph f kn h bg k1 k2 k : Nat) = decide (k = 6)
  low : ∀ k, k < 11 → low1 (alph f kn h bg k1 k2 k) = mk [alph f kn h bg k1 k2 (sig k)]
  nd : [13, 10, 46, f, kn, f + 1, h, bg, bg + 32, k1, k2].Nodup
theorem Signs.inj {b3 : Int → Option Str} {hid : Int → Bool} {kd f kn h bg k1 k2 : Nat} (S : Signs b3 hid kd f kn h bg k1 k2) : ∀ x y, x < 11 → y < 11 → alph f kn h bg k1 k2 x = alph f kn h bg k1 k2 y → x = y := by
  intro x y hx hy e
  have hl : [13, 10, 46, f, kn, f + 1, h, bg, bg + 32, k1, k2].length = 11 := rfl
  unfold alph at e
  rw [List.getD_eq_getElem?_getD, List.getD_eq_getElem?_getD, List.getElem?_eq_getElem (by omega), List.getElem?_eq_getElem (by omega)] at e
  exact (List.getElem_inj S.nd).mp e
section
variable {b3 : Int → Option Str} {hid : Int → Bool} {ek kd f kn h bg k1 k2 : Nat}
noncomputable def mailX (ek kd f kn h bg k1 k2 : Nat) (q k hh s : Bool) : List Nat := (midCode ek kd q k hh s).map (alph f kn h bg k1 k2)
theorem mail_text (he : ek < 4) : textOf (endsL.getD ek []) f kn h bg = mailX ek kd f kn h bg k1 k2 false false false false := by
  have h1 : ek = 0 ∨ ek = 1 ∨ ek = 2 ∨ ek = 3 := by omega
  rcases h1 with rfl | rfl | rfl | rfl <;> rfl
theorem flatS_code {g : Nat → Str} {φ : Nat → Nat} {τ : Nat → List Nat} : ∀ l : List Nat, (∀ k ∈ l, g (φ k) = mk ((τ k).map φ)) → flatS g (l.map φ) = (l.flatMap τ).map φ
  | [], _ => rfl
  | c :: l, h => by
    have ih := flatS_code (τ := τ) l fun c' hc => h c' (List.mem_cons_of_mem _ hc)
    unfold flatS at ih ⊢
    rw [List.map_cons, List.flatMap_cons, ih, h c (List.mem_cons_self ..), List.flatMap_cons, List.map_append]
theorem deed_knot (S : Signs b3 hid kd f kn h bg k1 k2) (he : ek < 4) (hk : kd < 3) (q hh s : Bool) : deedOn b3 hid kn bg 1 (mailX ek kd f kn h bg k1 k2 q false hh s) = mailX ek kd f kn h bg k1 k2 q true hh s := by
  have m1 := mid_knot ⟨ek, he⟩ ⟨kd, hk⟩ q hh s
  have m2 := (mid_lt ⟨ek, he⟩ ⟨kd, hk⟩ q false hh s).1
  dsimp only at m1 m2
  unfold deedOn mailX
  rw [if_neg (by decide), if_pos rfl, flatS_code (τ := fun c => if c = 4 then knotCode kd else [c]) _ fun c hc => ?_, m1]
  unfold foldAt
  by_cases h4 : c = 4
  · subst h4
    rw [if_pos rfl, if_pos (show alph f kn h bg k1 k2 4 = kn from rfl)]
    exact S.knot
  · rw [if_neg h4, if_neg (show ¬ alph f kn h bg k1 k2 c = kn from fun e => h4 (S.inj c 4 (m2 c hc) (by decide) e))]
    rfl
theorem deed_big (S : Signs b3 hid kd f kn h bg k1 k2) (he : ek < 4) (hk : kd < 3) (q k hh : Bool) : deedOn b3 hid kn bg 3 (mailX ek kd f kn h bg k1 k2 q k hh false) = mailX ek kd f kn h bg k1 k2 q k hh true := by
  have m1 := mid_big ⟨ek, he⟩ ⟨kd, hk⟩ q k hh
  have m2 := (mid_lt ⟨ek, he⟩ ⟨kd, hk⟩ q k hh false).1
  dsimp only at m1 m2
  unfold deedOn mailX
  rw [if_neg (by decide), if_neg (by decide), if_neg (by decide), flatS_code (τ := fun c => if c = 7 then [8] else [c]) _ fun c hc => ?_, m1]
  unfold foldAt
  by_cases h4 : c = 7
  · subst h4
    rw [if_pos rfl, if_pos (show alph f kn h bg k1 k2 7 = bg from rfl)]
    exact S.big
  · rw [if_neg h4, if_neg (show ¬ alph f kn h bg k1 k2 c = bg from fun e => h4 (S.inj c 7 (m2 c hc) (by decide) e))]
    rfl
theorem deed_hid (S : Signs b3 hid kd f kn h bg k1 k2) (he : ek < 4) (hk : kd < 3) (q k s : Bool) : deedOn b3 hid kn bg 2 (mailX ek kd f kn h bg k1 k2 q k false s) = mailX ek kd f kn h bg k1 k2 q k true s := by
  have m1 := mid_hid ⟨ek, he⟩ ⟨kd, hk⟩ q k s
  have m2 := (mid_lt ⟨ek, he⟩ ⟨kd, hk⟩ q k false s).1
  dsimp only at m1 m2
  unfold deedOn mailX
  rw [if_neg (by decide), if_neg (by decide), if_pos rfl, ← m1, List.filter_map]
  congr 1
  refine List.filter_congr fun c hc => ?_
  show (!hid ((alph f kn h bg k1 k2 c : Nat) : Int)) = _
  rw [S.hid c (m2 c hc)]
theorem deed_quote (S : Signs b3 hid kd f kn h bg k1 k2) (he : ek < 4) (hk : kd < 3) (k hh s : Bool) : deedOn b3 hid kn bg 0 (mailX ek kd f kn h bg k1 k2 false k hh s) = mailX ek kd f kn h bg k1 k2 true k hh s := by
  have inj := S.inj
  have m2 := mid_rest ⟨kd, hk⟩ k hh s
  dsimp only at m2
  have rest : ∀ c ∈ (3 :: ((if k then knotCode kd else [4]) ++ (5 :: ((if hh then [] else [6]) ++ [if s then 8 else 7])))).map (alph f kn h bg k1 k2), c ≠ 10 ∧ c ≠ 13 ∧ c ≠ 46 := by
    intro c hc
    obtain ⟨k, hk, rfl⟩ := List.mem_map.mp hc
    have hk3 := m2 k hk
    exact ⟨fun e => by have := inj k 1 hk3.2 (by decide) e; omega, fun e => by have := inj k 0 hk3.2 (by decide) e; omega, fun e => by have := inj k 2 hk3.2 (by decide) e; omega⟩
  unfold deedOn mailX midCode
  rw [if_pos rfl, List.map_append, List.map_append]
  generalize (3 :: ((if k then knotCode kd else [4]) ++ (5 :: ((if hh then [] else [6]) ++ [if s then 8 else 7])))).map (alph f kn h bg k1 k2) = r at rest
  have hr : norm false r = r := by
    have := norm_plain r [] fun c hc => ⟨(rest c hc).1, (rest c hc).2.1⟩
    rwa [List.append_nil, norm_nil, List.append_nil] at this
  have hd : ∀ b, dots b r = r := by
    intro b
    have := dots_plain r [] (fun c hc => ⟨(rest c hc).1, (rest c hc).2.2⟩) b
    rwa [List.append_nil, dots, List.append_nil] at this
  have n46 : norm false (46 :: r) = 46 :: r := by rw [norm_cons, if_neg (by simp), if_neg (by decide), if_neg (by decide), hr]
  have d46 : dots true (46 :: r) = 46 :: 46 :: r := by rw [dots_cons, if_pos ⟨rfl, rfl⟩, hd]
  have dcr : dots true (13 :: 10 :: 46 :: r) = 13 :: 10 :: 46 :: 46 :: r := by
    rw [dots_cons, if_neg (by simp), dots_cons, if_neg (by simp)]
    show 13 :: 10 :: dots true (46 :: r) = _
    rw [d46]
  have h1 : ek = 0 ∨ ek = 1 ∨ ek = 2 ∨ ek = 3 := by omega
  unfold quote
  rcases h1 with rfl | rfl | rfl | rfl
  · show dots true (norm false (46 :: r)) = 46 :: 46 :: r
    rw [n46, d46]
  · show dots true (norm false (13 :: 10 :: 46 :: r)) = 13 :: 10 :: 46 :: 46 :: r
    rw [norm_cons, if_neg (by simp), if_pos rfl, norm_cons, if_pos ⟨rfl, rfl⟩, n46, dcr]
  · show dots true (norm false (10 :: 46 :: r)) = 13 :: 10 :: 46 :: 46 :: r
    rw [norm_cons, if_neg (by simp), if_neg (by decide), if_pos rfl, n46, dcr]
  · show dots true (norm false (13 :: 46 :: r)) = 13 :: 10 :: 46 :: 46 :: r
    rw [norm_cons, if_neg (by simp), if_pos rfl, norm_true (fun r' e => by cases e), n46, dcr]
noncomputable def bitB (num d : Nat) : Bool := decide (num / 2 ^ d % 2 = 1)
theorem mail_of (S : Signs b3 hid kd f kn h bg k1 k2) (he : ek < 4) (hk : kd < 3) (num : Nat) : mailOf b3 hid kn bg num (mailX ek kd f kn h bg k1 k2 false false false false) 4 = mailX ek kd f kn h bg k1 k2 (bitB num 0) (bitB num 1) (bitB num 2) (bitB num 3) := by
  have s0 : ∀ i k hh s, (num / 16 + i) % 4 = 0 → mailStep b3 hid kn bg num i (mailX ek kd f kn h bg k1 k2 false k hh s) = mailX ek kd f kn h bg k1 k2 (bitB num 0) k hh s := by
    intro i k hh s e
    unfold mailStep bitB
    rw [e]
    by_cases hb : num / 2 ^ 0 % 2 = 1
    · rw [if_pos hb, decide_eq_true hb, deed_quote S he hk]
    · rw [if_neg hb, decide_eq_false hb]
  have s1 : ∀ i q hh s, (num / 16 + i) % 4 = 1 → mailStep b3 hid kn bg num i (mailX ek kd f kn h bg k1 k2 q false hh s) = mailX ek kd f kn h bg k1 k2 q (bitB num 1) hh s := by
    intro i q hh s e
    unfold mailStep bitB
    rw [e]
    by_cases hb : num / 2 ^ 1 % 2 = 1
    · rw [if_pos hb, decide_eq_true hb, deed_knot S he hk]
    · rw [if_neg hb, decide_eq_false hb]
  have s2 : ∀ i q k s, (num / 16 + i) % 4 = 2 → mailStep b3 hid kn bg num i (mailX ek kd f kn h bg k1 k2 q k false s) = mailX ek kd f kn h bg k1 k2 q k (bitB num 2) s := by
    intro i q k s e
    unfold mailStep bitB
    rw [e]
    by_cases hb : num / 2 ^ 2 % 2 = 1
    · rw [if_pos hb, decide_eq_true hb, deed_hid S he hk]
    · rw [if_neg hb, decide_eq_false hb]
  have s3 : ∀ i q k hh, (num / 16 + i) % 4 = 3 → mailStep b3 hid kn bg num i (mailX ek kd f kn h bg k1 k2 q k hh false) = mailX ek kd f kn h bg k1 k2 q k hh (bitB num 3) := by
    intro i q k hh e
    unfold mailStep bitB
    rw [e]
    by_cases hb : num / 2 ^ 3 % 2 = 1
    · rw [if_pos hb, decide_eq_true hb, deed_big S he hk]
    · rw [if_neg hb, decide_eq_false hb]
  rw [show (4 : Nat) = 3 + 1 from rfl, mailOf_succ, show (3 : Nat) = 2 + 1 from rfl, mailOf_succ, show (2 : Nat) = 1 + 1 from rfl, mailOf_succ, show (1 : Nat) = 0 + 1 from rfl, mailOf_succ]
  show mailStep b3 hid kn bg num 3 (mailStep b3 hid kn bg num 2 (mailStep b3 hid kn bg num 1 (mailStep b3 hid kn bg num 0 (mailX ek kd f kn h bg k1 k2 false false false false)))) = _
  have hr : num / 16 % 4 = 0 ∨ num / 16 % 4 = 1 ∨ num / 16 % 4 = 2 ∨ num / 16 % 4 = 3 := by omega
  rcases hr with h | h | h | h
  · rw [s0 0 _ _ _ (by omega), s1 1 _ _ _ (by omega), s2 2 _ _ _ (by omega), s3 3 _ _ _ (by omega)]
  · rw [s1 0 _ _ _ (by omega), s2 1 _ _ _ (by omega), s3 2 _ _ _ (by omega), s0 3 _ _ _ (by omega)]
  · rw [s2 0 _ _ _ (by omega), s3 1 _ _ _ (by omega), s0 2 _ _ _ (by omega), s1 3 _ _ _ (by omega)]
  · rw [s3 0 _ _ _ (by omega), s0 1 _ _ _ (by omega), s1 2 _ _ _ (by omega), s2 3 _ _ _ (by omega)]
theorem mail_far (S : Signs b3 hid kd f kn h bg k1 k2) (he : ek < 4) (hk : kd < 3) (q k hh s q' k' hh' s' : Bool) :
    lev subCost (k0 ek + k1c kd + 3) (mailX ek kd f kn h bg k1 k2 q k hh s) (mailX ek kd f kn h bg k1 k2 q' k' hh' s') = k0 ek * ne01 q q' + k1c kd * ne01 k k' + 2 * ne01 hh hh' + 1 * ne01 s s' := by
  have l1 := (mid_lt ⟨ek, he⟩ ⟨kd, hk⟩ q k hh s).1
  have l2 := (mid_lt ⟨ek, he⟩ ⟨kd, hk⟩ q' k' hh' s').1
  dsimp only at l1 l2
  unfold mailX
  rw [lev_map (cost' := costC) _ _ (fun x hx y hy e => S.inj x y (l1 x hx) (l2 y hy) e) fun x hx y hy => ?_, far_ok ek kd he hk]
  exact cost_map (σ := sig) (N := 11) S.inj (fun x hx => by unfold sig; split <;> omega) S.low (hx.elim (l1 x) (l2 x)) (hy.elim (l1 y) (l2 y))
end
end Mine
end

section
set_option Elab.async false
namespace Mine
noncomputable def M1 (P : Nat → Nat → Int) (i j : Nat) : Int := P i j * P 0 0 - P i 0 * P 0 j
noncomputable def M2 (P : Nat → Nat → Int) (i j : Nat) : Int := P i 0 * (P 0 1 * P 1 j - P 0 j * P 1 1) - P i 1 * (P 0 0 * P 1 j - P 0 j * P 1 0) + P i j * (P 0 0 * P 1 1 - P 0 1 * P 1 0)
theorem syl1 (P : Nat → Nat → Int) (i j : Nat) : M1 P i j * M1 P 1 1 - M1 P i 1 * M1 P 1 j = P 0 0 * M2 P i j := by
  unfold M1 M2; grind
/-- three columns' minor of the rows 0 1 2 -/
noncomputable def c3 (P : Nat → Nat → Int) (a b c : Nat) : Int := P 0 a * (P 1 b * P 2 c - P 1 c * P 2 b) - P 0 b * (P 1 a * P 2 c - P 1 c * P 2 a) + P 0 c * (P 1 a * P 2 b - P 1 b * P 2 a)
noncomputable def M3 (P : Nat → Nat → Int) (i j : Nat) : Int := P i j * c3 P 0 1 2 - P i 2 * c3 P 0 1 j + P i 1 * c3 P 0 2 j - P i 0 * c3 P 1 2 j
set_option maxHeartbeats 0 in
theorem syl2 (P : Nat → Nat → Int) (i j : Nat) : M2 P i j * M2 P 2 2 - M2 P i 2 * M2 P 2 j = (P 0 0 * P 1 1 - P 0 1 * P 1 0) * M3 P i j := by
  unfold M2 M3 c3; grind
end Mine
end

section
set_option Elab.async false
namespace Mine
noncomputable def c4 (P : Nat → Nat → Int) (a b c d : Nat) : Int := P 3 d * c3 P a b c - P 3 c * c3 P a b d + P 3 b * c3 P a c d - P 3 a * c3 P b c d
noncomputable def M4 (P : Nat → Nat → Int) (i j : Nat) : Int := P i j * c4 P 0 1 2 3 - P i 3 * c4 P 0 1 2 j + P i 2 * c4 P 0 1 3 j - P i 1 * c4 P 0 2 3 j + P i 0 * c4 P 1 2 3 j
theorem M2_c3 (P : Nat → Nat → Int) : M2 P 2 2 = c3 P 0 1 2 := by unfold M2 c3; grind
set_option maxRecDepth 10000 in
theorem pl1 (P : Nat → Nat → Int) (a b c d e : Nat) : c3 P a b d * c3 P a c e - c3 P a b e * c3 P a c d - c3 P a b c * c3 P a d e = 0 := by unfold c3; grind
set_option maxRecDepth 10000 in
theorem pl2 (P : Nat → Nat → Int) (a b c d e : Nat) : c3 P a b e * c3 P b c d - c3 P a b d * c3 P b c e + c3 P a b c * c3 P b d e = 0 := by unfold c3; grind
set_option maxRecDepth 10000 in
theorem pl3 (P : Nat → Nat → Int) (a b c d e : Nat) : c3 P a c d * c3 P b c e - c3 P a c e * c3 P b c d - c3 P a b c * c3 P c d e = 0 := by unfold c3; grind
theorem syl3 (P : Nat → Nat → Int) (i j : Nat) : M3 P i j * M3 P 3 3 - M3 P i 3 * M3 P 3 j = M2 P 2 2 * M4 P i j := by
  rw [M2_c3]
  have r1 := pl1 P 0 1 2 3 j
  have r2 := pl2 P 0 1 2 3 j
  have r3 := pl3 P 0 1 2 3 j
  have key : M3 P i j * M3 P 3 3 - M3 P i 3 * M3 P 3 j - c3 P 0 1 2 * M4 P i j = (P i 2 * P 3 1 - P i 1 * P 3 2) * (c3 P 0 1 3 * c3 P 0 2 j - c3 P 0 1 j * c3 P 0 2 3 - c3 P 0 1 2 * c3 P 0 3 j)
      + (P i 2 * P 3 0 - P i 0 * P 3 2) * (c3 P 0 1 j * c3 P 1 2 3 - c3 P 0 1 3 * c3 P 1 2 j + c3 P 0 1 2 * c3 P 1 3 j) + (P i 1 * P 3 0 - P i 0 * P 3 1) * (c3 P 0 2 3 * c3 P 1 2 j - c3 P 0 2 j * c3 P 1 2 3 - c3 P 0 1 2 * c3 P 2 3 j) := by
    unfold M3 M4 c4
    generalize c3 P 0 1 2 = x1
    generalize c3 P 0 1 3 = x2
    generalize c3 P 0 1 j = x3
    generalize c3 P 0 2 3 = x4
    generalize c3 P 0 2 j = x5
    generalize c3 P 0 3 j = x6
    generalize c3 P 1 2 3 = x7
    generalize c3 P 1 2 j = x8
    generalize c3 P 1 3 j = x9
    generalize c3 P 2 3 j = x0
    grind
  rw [r1, r2, r3, Int.mul_zero, Int.mul_zero, Int.mul_zero] at key
  omega
end Mine
end

section
set_option Elab.async false
set_option maxRecDepth 100000
namespace Mine
noncomputable def D5 (P : Nat → Nat → Int) : Int := M4 P 4 4
noncomputable def d2 (P : Nat → Nat → Int) (r s a b : Nat) : Int := P r a * P s b - P r b * P s a
noncomputable def d3 (P : Nat → Nat → Int) (r s t a b c : Nat) : Int := P r a * d2 P s t b c - P r b * d2 P s t a c + P r c * d2 P s t a b
noncomputable def d4 (P : Nat → Nat → Int) (r s t u a b c d : Nat) : Int := P r a * d3 P s t u b c d - P r b * d3 P s t u a c d + P r c * d3 P s t u a b d - P r d * d3 P s t u a b c
theorem col1 (P : Nat → Nat → Int) (x0 x1 : Int) : x1 * D5 P = -(x0 * P 0 0 + x1 * P 0 1) * d4 P 1 2 3 4 0 2 3 4 + (x0 * P 1 0 + x1 * P 1 1) * d4 P 0 2 3 4 0 2 3 4 - (x0 * P 2 0 + x1 * P 2 1) * d4 P 0 1 3 4 0 2 3 4 + (x0 * P 3 0 + x1 * P 3 1) * d4 P 0 1 2 4 0 2 3 4 - (x0 * P 4 0 + x1 * P 4 1) * d4 P 0 1 2 3 0 2 3 4 := by
  unfold D5 M4 c4 c3 d4 d3 d2
  grind
theorem col2 (P : Nat → Nat → Int) (x0 x1 x2 : Int) : x2 * D5 P = (x0 * P 0 0 + x1 * P 0 1 + x2 * P 0 2) * d4 P 1 2 3 4 0 1 3 4 - (x0 * P 1 0 + x1 * P 1 1 + x2 * P 1 2) * d4 P 0 2 3 4 0 1 3 4 + (x0 * P 2 0 + x1 * P 2 1 + x2 * P 2 2) * d4 P 0 1 3 4 0 1 3 4 - (x0 * P 3 0 + x1 * P 3 1 + x2 * P 3 2) * d4 P 0 1 2 4 0 1 3 4 + (x0 * P 4 0 + x1 * P 4 1 + x2 * P 4 2) * d4 P 0 1 2 3 0 1 3 4 := by
  unfold D5 M4 c4 c3 d4 d3 d2
  grind
theorem col3 (P : Nat → Nat → Int) (x0 x1 x2 x3 : Int) : x3 * D5 P = -(x0 * P 0 0 + x1 * P 0 1 + x2 * P 0 2 + x3 * P 0 3) * d4 P 1 2 3 4 0 1 2 4 + (x0 * P 1 0 + x1 * P 1 1 + x2 * P 1 2 + x3 * P 1 3) * d4 P 0 2 3 4 0 1 2 4 - (x0 * P 2 0 + x1 * P 2 1 + x2 * P 2 2 + x3 * P 2 3) * d4 P 0 1 3 4 0 1 2 4 + (x0 * P 3 0 + x1 * P 3 1 + x2 * P 3 2 + x3 * P 3 3) * d4 P 0 1 2 4 0 1 2 4 - (x0 * P 4 0 + x1 * P 4 1 + x2 * P 4 2 + x3 * P 4 3) * d4 P 0 1 2 3 0 1 2 4 := by
  unfold D5 M4 c4 c3 d4 d3 d2
  grind
end Mine
end

section
set_option Elab.async false
set_option maxRecDepth 100000
set_option linter.unusedVariables false
namespace Mine
noncomputable def Mk : Nat → (Nat → Nat → Int) → Nat → Nat → Int
  | 0, P, i, j => P i j
  | 1, P, i, j => M1 P i j
  | 2, P, i, j => M2 P i j
  | 3, P, i, j => M3 P i j
  | _, P, i, j => M4 P i j
noncomputable def lead : Nat → (Nat → Nat → Int) → Int
  | 0, _ => 1
  | k + 1, P => Mk k P k k
theorem four {k : Nat} (h : k < 4) : k = 0 ∨ k = 1 ∨ k = 2 ∨ k = 3 := by omega
theorem five {k : Nat} (h : k < 5) : k = 0 ∨ k = 1 ∨ k = 2 ∨ k = 3 ∨ k = 4 := by omega
theorem Mk_syl (k : Nat) (hk : k < 4) (P : Nat → Nat → Int) (i j : Nat) : Mk k P i j * Mk k P k k - Mk k P i k * Mk k P k j = lead k P * Mk (k + 1) P i j := by
  rcases four hk with rfl | rfl | rfl | rfl
  · show P i j * P 0 0 - P i 0 * P 0 j = 1 * M1 P i j; unfold M1; grind
  · exact syl1 P i j
  · show M2 P i j * M2 P 2 2 - M2 P i 2 * M2 P 2 j = M1 P 1 1 * M3 P i j
    rw [syl2]
    unfold M1
    grind
  · exact syl3 P i j
theorem sw_low {k p i : Nat} (hkp : k ≤ p) (h : i < k) : sw k p i = i := by
  unfold sw
  rw [if_neg (by omega), if_neg (by omega)]
theorem Mk_swap (k p : Nat) (hk : k < 5) (hkp : k ≤ p) (P : Nat → Nat → Int) (i j : Nat) : Mk k (swapA P k p) i j = Mk k P (sw k p i) j := by
  rcases five hk with rfl | rfl | rfl | rfl | rfl
  · rfl
  · have h0 := sw_low hkp (by decide : 0 < 1)
    show M1 _ i j = M1 P _ j
    unfold M1 swapA
    rw [h0]
  · have h0 := sw_low hkp (by decide : 0 < 2)
    have h1 := sw_low hkp (by decide : 1 < 2)
    show M2 _ i j = M2 P _ j
    unfold M2 swapA
    rw [h0, h1]
  · have h0 := sw_low hkp (by decide : 0 < 3)
    have h1 := sw_low hkp (by decide : 1 < 3)
    have h2 := sw_low hkp (by decide : 2 < 3)
    show M3 _ i j = M3 P _ j
    unfold M3 c3 swapA
    rw [h0, h1, h2]
  · have h0 := sw_low hkp (by decide : 0 < 4)
    have h1 := sw_low hkp (by decide : 1 < 4)
    have h2 := sw_low hkp (by decide : 2 < 4)
    have h3 := sw_low hkp (by decide : 3 < 4)
    show M4 _ i j = M4 P _ j
    unfold M4 c4 c3 swapA
    rw [h0, h1, h2, h3]
/-! rows changed -/
theorem c3_rows (P : Nat → Nat → Int) (k p : Nat) (hk : k < p) (hp : p < 3) (a b c : Nat) : c3 (swapA P k p) a b c = - c3 P a b c := by
  have : (k = 0 ∧ p = 1) ∨ (k = 0 ∧ p = 2) ∨ (k = 1 ∧ p = 2) := by omega
  rcases this with ⟨rfl, rfl⟩ | ⟨rfl, rfl⟩ | ⟨rfl, rfl⟩ <;> (unfold c3 swapA sw; simp only [reduceIte, Nat.reduceEqDiff]; grind)
theorem c4_rows (P : Nat → Nat → Int) (k : Nat) (hk : k < 3) (a b c d : Nat) : c4 (swapA P k 3) a b c d = - c4 P a b c d := by
  have : k = 0 ∨ k = 1 ∨ k = 2 := by omega
  rcases this with rfl | rfl | rfl <;> (unfold c4 c3 swapA sw; simp only [reduceIte, Nat.reduceEqDiff]; grind)
theorem D5_34 (P : Nat → Nat → Int) : D5 (swapA P 3 4) = - D5 P := by
  have hc : ∀ a b c, c3 (swapA P 3 4) a b c = c3 P a b c := fun a b c => by unfold c3 swapA sw; simp only [reduceIte, Nat.reduceEqDiff]
  unfold D5 M4 c4
  simp only [hc]
  unfold swapA sw
  simp only [reduceIte, Nat.reduceEqDiff]
  grind
theorem swapA_row (P : Nat → Nat → Int) (k p i j : Nat) : swapA P k p i j = P (sw k p i) j := rfl
theorem D5_k3 (P : Nat → Nat → Int) (k : Nat) (hk : k < 3) : D5 (swapA P k 3) = - D5 P := by
  unfold D5 M4
  simp only [c4_rows P k hk]
  have h4 : ∀ j, swapA P k 3 4 j = P 4 j := fun j => by rw [swapA_row]; unfold sw; rw [if_neg (by omega), if_neg (by omega)]
  simp only [h4]
  grind
theorem D5_low (P : Nat → Nat → Int) (k p : Nat) (hk : k < p) (hp : p < 3) : D5 (swapA P k p) = - D5 P := by
  have hc := c3_rows P k p hk hp
  have h3 : ∀ j, swapA P k p 3 j = P 3 j := fun j => by rw [swapA_row]; unfold sw; rw [if_neg (by omega), if_neg (by omega)]
  have h4 : ∀ j, swapA P k p 4 j = P 4 j := fun j => by rw [swapA_row]; unfold sw; rw [if_neg (by omega), if_neg (by omega)]
  unfold D5 M4 c4
  simp only [hc, h3, h4]
  grind
theorem D5_swap (P : Nat → Nat → Int) (k p : Nat) (hk : k < p) (hp : p < 5) : D5 (swapA P k p) = - D5 P := by
  have h3 : p < 3 ∨ p = 3 ∨ p = 4 := by omega
  rcases h3 with h | rfl | rfl
  · exact D5_low P k p hk h
  · exact D5_k3 P k hk
  · by_cases h : k = 3
    · subst h; exact D5_34 P
    · have hk3 : k < 3 := by omega
      have e : swapA P k 4 = swapA (swapA (swapA P k 3) 3 4) k 3 := by
        funext i j
        show P (sw k 4 i) j = P (sw k 3 (sw 3 4 (sw k 3 i))) j
        congr 1
        unfold sw
        grind
      rw [e, D5_k3 _ k hk3, D5_34, D5_k3 _ k hk3]
      grind
/-! no pivot: the determinant is nought -/
theorem zero_0 (P : Nat → Nat → Int) (h : ∀ i, i < 5 → P i 0 = 0) : D5 P = 0 := by
  have h0 := h 0 (by decide)
  have h1 := h 1 (by decide)
  have h2 := h 2 (by decide)
  have h3 := h 3 (by decide)
  have h4 := h 4 (by decide)
  unfold D5 M4 c4 c3
  simp only [h0, h1, h2, h3, h4]
  grind
theorem zero_of (x d : Int) (h : x * d = 0) (hx : x ≠ 0) : d = 0 := by
  rcases Int.mul_eq_zero.mp h with h | h
  · exact absurd h hx
  · exact h
theorem no_pivot (k : Nat) (hk : k < 5) (P : Nat → Nat → Int) (h : ∀ i, k ≤ i → i < 5 → Mk k P i k = 0) (hl : lead k P ≠ 0) : D5 P = 0 := by
  rcases five hk with rfl | rfl | rfl | rfl | rfl
  · exact zero_0 P fun i hi => h i (Nat.zero_le _) hi
  · have e : ∀ i, i < 5 → (-P 0 1) * P i 0 + P 0 0 * P i 1 = 0 := by
      intro i hi
      by_cases h0 : i = 0
      · subst h0; grind
      · have := h i (by omega) hi
        have e1 : Mk 1 P i 1 = (-P 0 1) * P i 0 + P 0 0 * P i 1 := by show M1 P i 1 = _; unfold M1; grind
        rw [← e1]; exact this
    refine zero_of (lead 1 P) _ ?_ hl
    show P 0 0 * D5 P = 0
    rw [col1 P (-P 0 1) (P 0 0), e 0 (by decide), e 1 (by decide), e 2 (by decide), e 3 (by decide), e 4 (by decide)]
    grind
  · have e : ∀ i, i < 5 → (P 0 1 * P 1 2 - P 0 2 * P 1 1) * P i 0 + (-(P 0 0 * P 1 2 - P 0 2 * P 1 0)) * P i 1 + M1 P 1 1 * P i 2 = 0 := by
      intro i hi
      have e1 : Mk 2 P i 2 = (P 0 1 * P 1 2 - P 0 2 * P 1 1) * P i 0 + (-(P 0 0 * P 1 2 - P 0 2 * P 1 0)) * P i 1 + M1 P 1 1 * P i 2 := by show M2 P i 2 = _; unfold M2 M1; grind
      rw [← e1]
      have : i = 0 ∨ i = 1 ∨ 2 ≤ i := by omega
      rcases this with rfl | rfl | h2
      · show M2 P 0 2 = 0; unfold M2; grind
      · show M2 P 1 2 = 0; unfold M2; grind
      · exact h i h2 hi
    refine zero_of (lead 2 P) _ ?_ hl
    show M1 P 1 1 * D5 P = 0
    rw [col2 P (P 0 1 * P 1 2 - P 0 2 * P 1 1) (-(P 0 0 * P 1 2 - P 0 2 * P 1 0)) (M1 P 1 1), e 0 (by decide), e 1 (by decide), e 2 (by decide), e 3 (by decide), e 4 (by decide)]
    grind
  · have e : ∀ i, i < 5 → (-(c3 P 1 2 3)) * P i 0 + c3 P 0 2 3 * P i 1 + (-(c3 P 0 1 3)) * P i 2 + M2 P 2 2 * P i 3 = 0 := by
      intro i hi
      have e1 : Mk 3 P i 3 = (-(c3 P 1 2 3)) * P i 0 + c3 P 0 2 3 * P i 1 + (-(c3 P 0 1 3)) * P i 2 + M2 P 2 2 * P i 3 := by show M3 P i 3 = _; rw [M2_c3]; unfold M3; grind
      rw [← e1]
      have : i = 0 ∨ i = 1 ∨ i = 2 ∨ 3 ≤ i := by omega
      rcases this with rfl | rfl | rfl | h2
      · show M3 P 0 3 = 0; unfold M3 c3; grind
      · show M3 P 1 3 = 0; unfold M3 c3; grind
      · show M3 P 2 3 = 0; unfold M3 c3; grind
      · exact h i h2 hi
    refine zero_of (lead 3 P) _ ?_ hl
    show M2 P 2 2 * D5 P = 0
    rw [col3 P (-(c3 P 1 2 3)) (c3 P 0 2 3) (-(c3 P 0 1 3)) (M2 P 2 2), e 0 (by decide), e 1 (by decide), e 2 (by decide), e 3 (by decide), e 4 (by decide)]
    grind
  · exact h 4 (by decide) (by decide)
theorem barF_step (n f k : Nat) (A : Nat → Nat → Int) (a t : Int) : barF n (f + 1) k A a t = match picksOf A k (n - k) with
    | [] => 0
    | p :: _ => barF n f (k + 1) (midA (if p = k then A else swapA A k p) k a n n) ((if p = k then A else swapA A k p) k k) (if p = k then t else -t) := rfl
theorem lead_swap (k p : Nat) (hk : k < 5) (hkp : k ≤ p) (P : Nat → Nat → Int) : lead k (swapA P k p) = lead k P := by
  have hlow : ∀ r, r < k → ∀ c, swapA P k p r c = P r c := fun r hr c => by rw [swapA_row, sw_low hkp hr]
  rcases five hk with rfl | rfl | rfl | rfl | rfl
  · rfl
  · exact hlow 0 (by decide) 0
  · show M1 _ 1 1 = M1 P 1 1; unfold M1; simp only [hlow 0 (by decide), hlow 1 (by decide)]
  · show M2 _ 2 2 = M2 P 2 2; unfold M2; simp only [hlow 0 (by decide), hlow 1 (by decide), hlow 2 (by decide)]
  · show M3 _ 3 3 = M3 P 3 3; unfold M3 c3; simp only [hlow 0 (by decide), hlow 1 (by decide), hlow 2 (by decide), hlow 3 (by decide)]
/-- the elimination gives the determinant -/
theorem bar_det : ∀ (f k : Nat), f + k = 5 → ∀ (W P : Nat → Nat → Int) (a t : Int), (∀ i j, k ≤ i → i < 5 → k ≤ j → j < 5 → W i j = Mk k P i j) → a = lead k P → a ≠ 0 → barF 5 f k W a t = t * D5 P := by
  intro f
  induction f with
  | zero =>
    intro k hf W P a t hW ha ha0
    have : k = 5 := by omega
    subst this
    rw [ha]
    rfl
  | succ f ih =>
    intro k hf W P a t hW ha ha0
    have hk : k < 5 := by omega
    rw [barF_step]
    have hmem : ∀ x, x ∈ picksOf W k (5 - k) ↔ k ≤ x ∧ x < 5 ∧ W x k ≠ 0 := by
      intro x
      unfold picksOf
      rw [List.mem_filter, List.mem_map]
      constructor
      · rintro ⟨⟨i, hi, rfl⟩, h2⟩
        have := List.mem_range.mp hi
        exact ⟨by omega, by omega, by simpa using h2⟩
      · rintro ⟨h1, h2, h3⟩
        exact ⟨⟨x - k, List.mem_range.mpr (by omega), by omega⟩, by simpa using h3⟩
    cases hp : picksOf W k (5 - k) with
    | nil =>
      have hz : ∀ i, k ≤ i → i < 5 → Mk k P i k = 0 := by
        intro i h1 h2
        have := hmem i
        rw [hp] at this
        rw [← hW i k h1 h2 (Nat.le_refl _) hk]
        by_cases h0 : W i k = 0
        · exact h0
        · exact absurd (this.mpr ⟨h1, h2, h0⟩) List.not_mem_nil
      rw [no_pivot k hk P hz (by rw [← ha]; exact ha0), Int.mul_zero]
    | cons p pr =>
      obtain ⟨h1, h2, h3⟩ := (hmem p).mp (by rw [hp]; exact List.mem_cons_self ..)
      dsimp only
      have hW1 : ∀ i j, k ≤ i → i < 5 → k ≤ j → j < 5 → (if p = k then W else swapA W k p) i j = Mk k (if p = k then P else swapA P k p) i j := by
        intro i j hi hi5 hj hj5
        split
        · exact hW i j hi hi5 hj hj5
        · rw [Mk_swap k p hk h1, swapA_row]
          exact hW _ j (by unfold sw; split; exact h1; split <;> omega) (sw_lt hk h2 hi5) hj hj5
      have hl1 : lead k (if p = k then P else swapA P k p) = lead k P := by
        split
        · rfl
        · exact lead_swap k p hk h1 P
      have hD : (if p = k then t else -t) * D5 (if p = k then P else swapA P k p) = t * D5 P := by
        split
        · rfl
        · rw [D5_swap P k p (by omega) h2]
          grind
      have hpv : (if p = k then W else swapA W k p) k k ≠ 0 := by
        split
        · rename_i e; rw [← e] at h3 ⊢; exact h3
        · rw [swapA_row]; unfold sw; rw [if_pos rfl]; exact h3
      generalize (if p = k then W else swapA W k p) = W1 at hW1 hpv ⊢
      generalize (if p = k then P else swapA P k p) = P1 at hW1 hl1 hD ⊢
      rw [← hD]
      refine ih (k + 1) (by omega) _ P1 _ _ (fun i j hi hi5 hj hj5 => ?_) ?_ hpv
      · have hk4 : k < 4 := by omega
        unfold midA newA
        rw [if_pos ⟨by omega, by omega, .inl hi5⟩, hW1 i j (by omega) hi5 (by omega) hj5, hW1 k k (Nat.le_refl _) hk (Nat.le_refl _) hk, hW1 i k (by omega) hi5 (Nat.le_refl _) hk, hW1 k j (Nat.le_refl _) hk (by omega) hj5, Mk_syl k hk4, hl1, ← ha]
        exact Int.mul_fdiv_cancel_left _ ha0
      · exact hW1 k k (Nat.le_refl _) hk (Nat.le_refl _) hk
theorem bar5 (A : Nat → Nat → Int) : barF 5 5 0 A 1 1 = D5 A := by
  rw [bar_det 5 0 rfl A A 1 1 (fun _ _ _ _ _ _ => rfl) rfl (by decide), Int.one_mul]
end Mine
end

section
set_option Elab.async false
set_option maxRecDepth 1000000
set_option maxHeartbeats 0
set_option linter.unusedVariables false
namespace Mine
noncomputable def mulA (B V : Nat → Nat → Int) (i j : Nat) : Int := B i 0 * V 0 j + B i 1 * V 1 j + B i 2 * V 2 j + B i 3 * V 3 j + B i 4 * V 4 j
theorem c3_mul (B V : Nat → Nat → Int) (a b c : Nat) : c3 (mulA B V) a b c = c3 B 0 1 2 * d3 V 0 1 2 a b c + c3 B 0 1 3 * d3 V 0 1 3 a b c + c3 B 0 1 4 * d3 V 0 1 4 a b c + c3 B 0 2 3 * d3 V 0 2 3 a b c + c3 B 0 2 4 * d3 V 0 2 4 a b c + c3 B 0 3 4 * d3 V 0 3 4 a b c + c3 B 1 2 3 * d3 V 1 2 3 a b c + c3 B 1 2 4 * d3 V 1 2 4 a b c + c3 B 1 3 4 * d3 V 1 3 4 a b c + c3 B 2 3 4 * d3 V 2 3 4 a b c := by
  unfold c3 mulA d3 d2
  grind
theorem c4_mul (B V : Nat → Nat → Int) (a b c d : Nat) : c4 (mulA B V) a b c d = c4 B 0 1 2 3 * d4 V 0 1 2 3 a b c d + c4 B 0 1 2 4 * d4 V 0 1 2 4 a b c d + c4 B 0 1 3 4 * d4 V 0 1 3 4 a b c d + c4 B 0 2 3 4 * d4 V 0 2 3 4 a b c d + c4 B 1 2 3 4 * d4 V 1 2 3 4 a b c d := by
  unfold c4
  simp only [c3_mul]
  generalize c3 B 0 1 2 = y012
  generalize c3 B 0 1 3 = y013
  generalize c3 B 0 1 4 = y014
  generalize c3 B 0 2 3 = y023
  generalize c3 B 0 2 4 = y024
  generalize c3 B 0 3 4 = y034
  generalize c3 B 1 2 3 = y123
  generalize c3 B 1 2 4 = y124
  generalize c3 B 1 3 4 = y134
  generalize c3 B 2 3 4 = y234
  unfold mulA d4 d3 d2
  grind
theorem D5_d4 (V : Nat → Nat → Int) : D5 V = V 4 4 * d4 V 0 1 2 3 0 1 2 3 - V 4 3 * d4 V 0 1 2 3 0 1 2 4 + V 4 2 * d4 V 0 1 2 3 0 1 3 4 - V 4 1 * d4 V 0 1 2 3 0 2 3 4 + V 4 0 * d4 V 0 1 2 3 1 2 3 4 := by
  unfold D5 M4 c4 c3 d4 d3 d2
  grind
theorem D5_mul (B V : Nat → Nat → Int) : D5 (mulA B V) = D5 B * D5 V := by
  rw [D5_d4 V]
  unfold D5 M4
  simp only [c4_mul]
  generalize c4 B 0 1 2 3 = y0123
  generalize c4 B 0 1 2 4 = y0124
  generalize c4 B 0 1 3 4 = y0134
  generalize c4 B 0 2 3 4 = y0234
  generalize c4 B 1 2 3 4 = y1234
  unfold mulA d4 d3 d2
  grind
theorem D5_tr (N : Nat → Nat → Int) : D5 (fun i j => N j i) = D5 N := by
  unfold D5 M4 c4 c3
  grind
theorem D5_congr {A B : Nat → Nat → Int} (h : ∀ i j, i < 5 → j < 5 → A i j = B i j) : D5 A = D5 B := by
  unfold D5 M4 c4 c3
  rw [h 0 0 (by decide) (by decide), h 0 1 (by decide) (by decide), h 0 2 (by decide) (by decide), h 0 3 (by decide) (by decide), h 0 4 (by decide) (by decide), h 1 0 (by decide) (by decide), h 1 1 (by decide) (by decide), h 1 2 (by decide) (by decide), h 1 3 (by decide) (by decide), h 1 4 (by decide) (by decide), h 2 0 (by decide) (by decide), h 2 1 (by decide) (by decide), h 2 2 (by decide) (by decide), h 2 3 (by decide) (by decide), h 2 4 (by decide) (by decide), h 3 0 (by decide) (by decide), h 3 1 (by decide) (by decide), h 3 2 (by decide) (by decide), h 3 3 (by decide) (by decide), h 3 4 (by decide) (by decide), h 4 0 (by decide) (by decide), h 4 1 (by decide) (by decide), h 4 2 (by decide) (by decide), h 4 3 (by decide) (by decide), h 4 4 (by decide) (by decide)]
end Mine
end

section
set_option Elab.async false
set_option maxRecDepth 100000
set_option linter.unusedVariables false
namespace Mine
/-- the form that the costs give -/
noncomputable def formT (c1 c2 c3 c4 : Int) (i j : Nat) : Int :=
  ([[0, c1, c2, c3, c4], [c1, -2 * c1, 0, 0, 0], [c2, 0, -2 * c2, 0, 0], [c3, 0, 0, -2 * c3, 0], [c4, 0, 0, 0, -2 * c4]].getD i []).getD j 0
theorem D5_form (a b c d : Int) : D5 (formT a b c d) = 8 * (a + b + c + d) * a * b * c * d := by
  have h00 : formT a b c d 0 0 = 0 := rfl
  have h01 : formT a b c d 0 1 = a := rfl
  have h02 : formT a b c d 0 2 = b := rfl
  have h03 : formT a b c d 0 3 = c := rfl
  have h04 : formT a b c d 0 4 = d := rfl
  have h10 : formT a b c d 1 0 = a := rfl
  have h11 : formT a b c d 1 1 = -2 * a := rfl
  have h12 : formT a b c d 1 2 = 0 := rfl
  have h13 : formT a b c d 1 3 = 0 := rfl
  have h14 : formT a b c d 1 4 = 0 := rfl
  have h20 : formT a b c d 2 0 = b := rfl
  have h21 : formT a b c d 2 1 = 0 := rfl
  have h22 : formT a b c d 2 2 = -2 * b := rfl
  have h23 : formT a b c d 2 3 = 0 := rfl
  have h24 : formT a b c d 2 4 = 0 := rfl
  have h30 : formT a b c d 3 0 = c := rfl
  have h31 : formT a b c d 3 1 = 0 := rfl
  have h32 : formT a b c d 3 2 = 0 := rfl
  have h33 : formT a b c d 3 3 = -2 * c := rfl
  have h34 : formT a b c d 3 4 = 0 := rfl
  have h40 : formT a b c d 4 0 = d := rfl
  have h41 : formT a b c d 4 1 = 0 := rfl
  have h42 : formT a b c d 4 2 = 0 := rfl
  have h43 : formT a b c d 4 3 = 0 := rfl
  have h44 : formT a b c d 4 4 = -2 * d := rfl
  unfold D5 M4 c4 c3
  rw [h00, h01, h02, h03, h04, h10, h11, h12, h13, h14, h20, h21, h22, h23, h24, h30, h31, h32, h33, h34, h40, h41, h42, h43, h44]
  grind
noncomputable def farF (c1 c2 c3 c4 : Int) (N : Nat → Nat → Int) (i j : Nat) : Int := c1 * (N i 1 + N j 1 - 2 * (N i 1 * N j 1)) + c2 * (N i 2 + N j 2 - 2 * (N i 2 * N j 2)) + c3 * (N i 3 + N j 3 - 2 * (N i 3 * N j 3)) + c4 * (N i 4 + N j 4 - 2 * (N i 4 * N j 4))
theorem far_form (a b c d : Int) (N : Nat → Nat → Int) (h : ∀ i, N i 0 = 1) (i j : Nat) : farF a b c d N i j = mulA (mulA N (formT a b c d)) (fun i j => N j i) i j := by
  have h00 : formT a b c d 0 0 = 0 := rfl
  have h01 : formT a b c d 0 1 = a := rfl
  have h02 : formT a b c d 0 2 = b := rfl
  have h03 : formT a b c d 0 3 = c := rfl
  have h04 : formT a b c d 0 4 = d := rfl
  have h10 : formT a b c d 1 0 = a := rfl
  have h11 : formT a b c d 1 1 = -2 * a := rfl
  have h12 : formT a b c d 1 2 = 0 := rfl
  have h13 : formT a b c d 1 3 = 0 := rfl
  have h14 : formT a b c d 1 4 = 0 := rfl
  have h20 : formT a b c d 2 0 = b := rfl
  have h21 : formT a b c d 2 1 = 0 := rfl
  have h22 : formT a b c d 2 2 = -2 * b := rfl
  have h23 : formT a b c d 2 3 = 0 := rfl
  have h24 : formT a b c d 2 4 = 0 := rfl
  have h30 : formT a b c d 3 0 = c := rfl
  have h31 : formT a b c d 3 1 = 0 := rfl
  have h32 : formT a b c d 3 2 = 0 := rfl
  have h33 : formT a b c d 3 3 = -2 * c := rfl
  have h34 : formT a b c d 3 4 = 0 := rfl
  have h40 : formT a b c d 4 0 = d := rfl
  have h41 : formT a b c d 4 1 = 0 := rfl
  have h42 : formT a b c d 4 2 = 0 := rfl
  have h43 : formT a b c d 4 3 = 0 := rfl
  have h44 : formT a b c d 4 4 = -2 * d := rfl
  unfold mulA farF
  dsimp only
  rw [h00, h01, h02, h03, h04, h10, h11, h12, h13, h14, h20, h21, h22, h23, h24, h30, h31, h32, h33, h34, h40, h41, h42, h43, h44, h i, h j]
  grind
theorem det_law (a b c d : Int) (N : Nat → Nat → Int) (h : ∀ i, N i 0 = 1) : D5 (farF a b c d N) = 8 * (a + b + c + d) * a * b * c * d * (D5 N * D5 N) := by
  rw [D5_congr fun i j _ _ => far_form a b c d N h i j, D5_mul, D5_mul, D5_tr, D5_form]
  grind
end Mine
end

section
open PySem PySem.W PyProof.Rows
set_option Elab.async false
set_option linter.unusedVariables false
set_option maxRecDepth 100000
namespace Mine
noncomputable def kdOf (p : Nat) : Nat := if p < 2 then 0 else if p < 4 then 1 else 2
noncomputable def kl1 (p : Nat) : Nat := [107, 115, 115, 102, 102, 116, 110, 115].getD p 0
noncomputable def kl2 (p : Nat) : Nat := [0, 0, 0, 0, 105, 109, 111, 109].getD p 0
noncomputable def knotStr (p : Nat) : List Nat := if p < 2 then [kl1 p] else if p < 4 then [kl1 p, kl1 p] else [kl1 p, kl2 p]
noncomputable def outCj (c : Nat) : Bool := decide (c < 19968) || decide (40000 ≤ c)
theorem few_ok : ∀ c ∈ [13, 10, 46] ++ hidNums, b3T (c : Nat) = none ∧ Unicode.lowerOf c = [c] ∧ c ≠ 0x3A3 ∧ outCj c = true := by decide +kernel
theorem few_hid : ∀ c ∈ [13, 10, 46], hidT (c : Nat) = false := by decide +kernel
theorem knot_ok : ∀ p : Fin 8, b3T ((knotsL.getD p.val 0 : Nat) : Int) = some (mk (knotStr p)) ∧ Unicode.lowerOf (knotsL.getD p.val 0) = [knotsL.getD p.val 0] ∧ knotsL.getD p.val 0 ≠ 0x3A3 ∧ hidT ((knotsL.getD p.val 0 : Nat) : Int) = false ∧ outCj (knotsL.getD p.val 0) = true ∧
    Unicode.lowerOf (kl1 p) = [kl1 p] ∧ Unicode.lowerOf (kl2 p) = [kl2 p] ∧ kl1 p ≠ 0x3A3 ∧ kl2 p ≠ 0x3A3 ∧ hidT ((kl1 p : Nat) : Int) = false ∧ hidT ((kl2 p : Nat) : Int) = false ∧ kl1 p < 200 ∧ kl2 p < 200 := by decide +kernel
theorem big_ok : ∀ b : Fin 16, b3T ((bigsL.getD b.val 0 : Nat) : Int) = none ∧ Unicode.lowerOf (bigsL.getD b.val 0) = [bigsL.getD b.val 0 + 32] ∧ Unicode.lowerOf (bigsL.getD b.val 0 + 32) = [bigsL.getD b.val 0 + 32] ∧ bigsL.getD b.val 0 < 200 ∧
    hidT ((bigsL.getD b.val 0 : Nat) : Int) = false ∧ hidT ((bigsL.getD b.val 0 + 32 : Nat) : Int) = false := by decide +kernel
noncomputable abbrev baseL (kn bg k1 k2 : Nat) : List Nat := [13, 10, 46, kn, bg, bg + 32, k1, k2]
noncomputable def baseOk (l : List Nat) : Bool := decide l.Nodup && l.all fun c => outCj c && !hidT (c : Nat)
theorem nd_ok : ∀ (p : Fin 8) (b : Fin 16), baseOk (baseL (knotsL.getD p.val 0) (bigsL.getD b.val 0) (kl1 p) (kl2 p)) = true := by decide +kernel
theorem hidT_mem (c : Nat) : hidT (c : Nat) = true ↔ c ∈ hidNums := by
  unfold hidT
  rw [List.contains_iff_mem, List.mem_map]
  constructor
  · rintro ⟨x, hx, e⟩
    have : x = c := by omega
    exact this ▸ hx
  · exact fun h => ⟨c, h, rfl⟩
theorem out_cj {c : Nat} (h : outCj c = true) : c < 19968 ∨ 40000 ≤ c := by simpa [outCj] using h
theorem cj_plain {c : Nat} (h1 : 19968 ≤ c) (h2 : c < 40000) : low1 c = mk [c] ∧ hidT (c : Nat) = false := by
  refine ⟨low1_of (lower_cj c h1 h2) (by omega), ?_⟩
  cases h : hidT (c : Nat) with
  | false => rfl
  | true =>
    have := out_cj (few_ok c (List.mem_append_right _ ((hidT_mem c).mp h))).2.2.2
    omega
theorem knot_code (p f kn h bg k1 k2 : Nat) (hp : p < 8) (h1 : k1 = kl1 p) (h2 : k2 = kl2 p) : (knotCode (kdOf p)).map (alph f kn h bg k1 k2) = knotStr p := by
  subst h1 h2
  unfold knotCode kdOf knotStr
  by_cases a : p < 2
  · rw [if_pos a, if_pos rfl, if_pos a]; rfl
  · rw [if_neg a, if_neg a]
    by_cases b : p < 4
    · rw [if_pos b, if_neg (by decide), if_pos rfl, if_pos b]; rfl
    · rw [if_neg b, if_neg (by decide), if_neg (by decide), if_neg b]; rfl
theorem up11 {P : Nat → Prop} {n : Nat} (h : ∀ k, k < n → P k) (hn : P n) : ∀ k, k < n + 1 → P k := fun k hk => (Nat.lt_succ_iff_lt_or_eq.mp hk).elim (h k) fun e => e ▸ hn
theorem all11 {P : Nat → Prop} (h0 : P 0) (h1 : P 1) (h2 : P 2) (h3 : P 3) (h4 : P 4) (h5 : P 5) (h6 : P 6) (h7 : P 7) (h8 : P 8) (h9 : P 9) (h10 : P 10) : ∀ k, k < 11 → P k :=
  up11 (up11 (up11 (up11 (up11 (up11 (up11 (up11 (up11 (up11 (up11 (fun k h => absurd h (Nat.not_lt_zero k)) h0) h1) h2) h3) h4) h5) h6) h7) h8) h9) h10
theorem out_ne {f c : Nat} (h1 : 19968 ≤ f) (h2 : f < 40000) (hc : c < 19968 ∨ 40000 ≤ c) : f ≠ c := by omega
theorem nd_join {f kn h bg k1 k2 : Nat} (nd : (baseL kn bg k1 k2).Nodup) (lo : ∀ c ∈ baseL kn bg k1 k2, (c < 19968 ∨ 40000 ≤ c) ∧ h ≠ c) (h1 : 19968 ≤ f) (h2 : f + 1 < 40000) (oh : h < 19968 ∨ 40000 ≤ h) : [13, 10, 46, f, kn, f + 1, h, bg, bg + 32, k1, k2].Nodup := by
  have p : [13, 10, 46, f, kn, f + 1, h, bg, bg + 32, k1, k2].Perm (f :: (f + 1) :: h :: baseL kn bg k1 k2) :=
    (List.perm_middle (l₁ := [13, 10, 46])).trans (.cons _ ((List.perm_middle (l₁ := [13, 10, 46, kn])).trans (.cons _ (List.perm_middle (l₁ := [13, 10, 46, kn])))))
  refine p.nodup_iff.mpr (List.nodup_cons.mpr ⟨fun m => ?_, List.nodup_cons.mpr ⟨fun m => ?_, List.nodup_cons.mpr ⟨fun m => (lo h m).2 rfl, nd⟩⟩⟩)
  · rcases List.mem_cons.mp m with e | m
    · exact absurd e (Nat.ne_of_lt (Nat.lt_succ_self f))
    · rcases List.mem_cons.mp m with e | m
      · exact out_ne h1 (Nat.lt_of_succ_lt h2) oh e
      · exact out_ne h1 (Nat.lt_of_succ_lt h2) (lo f m).1 rfl
  · rcases List.mem_cons.mp m with e | m
    · exact out_ne (Nat.le_succ_of_le h1) h2 oh e
    · exact out_ne (Nat.le_succ_of_le h1) h2 (lo _ m).1 rfl
theorem signs_ok (p b q z : Nat) (hp : p < 8) (hb : b < 16) (hz : z < 20000) : Signs b3T hidT (kdOf p) (19968 + z) (knotsL.getD p 0) (hidNums.getD (q % 27) 0) (bigsL.getD b 0) (kl1 p) (kl2 p) := by
  obtain ⟨a1, a2, a3, a4, a5, a6, a7, a8, a9, a10, a11, a12, a13⟩ := knot_ok ⟨p, hp⟩
  obtain ⟨b1, b2, b3, b4, b5, b6⟩ := big_ok ⟨b, hb⟩
  have nd := nd_ok ⟨p, hp⟩ ⟨b, hb⟩
  dsimp only at a1 a2 a3 a4 a5 a6 a7 a8 a9 a10 a11 a12 a13 b1 b2 b3 b4 b5 b6 nd
  have hmem : hidNums.getD (q % 27) 0 ∈ hidNums := by
    have hl : q % 27 < hidNums.length := Nat.mod_lt _ (by decide)
    rw [List.getD_eq_getElem?_getD, List.getElem?_eq_getElem hl]
    exact List.getElem_mem hl
  have kc := fun f h => knot_code p f (knotsL.getD p 0) h (bigsL.getD b 0) (kl1 p) (kl2 p) hp rfl rfl
  generalize knotsL.getD p 0 = kn at a1 a2 a3 a4 nd kc ⊢
  generalize bigsL.getD b 0 = bg at b1 b2 b3 b4 b5 b6 nd kc ⊢
  generalize kl1 p = k1 at a6 a8 a10 a12 nd kc ⊢
  generalize kl2 p = k2 at a7 a9 a11 a13 nd kc ⊢
  have hf : 19968 ≤ 19968 + z ∧ 19968 + z + 1 < 40000 := by omega
  obtain ⟨f1, f2⟩ := cj_plain (c := 19968 + z) (by omega) (by omega)
  obtain ⟨f3, f4⟩ := cj_plain (c := 19968 + z + 1) (by omega) (by omega)
  generalize 19968 + z = f at f1 f2 f3 f4 hf ⊢
  obtain ⟨h1, h2, h3, h4⟩ := few_ok _ (List.mem_append_right _ hmem)
  have hh := (hidT_mem _).mpr hmem
  have oh := out_cj h4
  generalize hidNums.getD (q % 27) 0 = h at h2 h3 hh oh ⊢
  have ne : ∀ c : Nat, hidT (c : Nat) = false → h ≠ c := fun c hc e => by rw [← e, hh] at hc; cases hc
  have few : ∀ c ∈ [13, 10, 46], low1 c = mk [c] ∧ hidT (c : Nat) = false := fun c hc => by
    obtain ⟨q1, q2, q3, q4⟩ := few_ok c (List.mem_append_left _ hc)
    exact ⟨low1_of q2 q3, few_hid c hc⟩
  have b7 : bg + 32 < 300 := Nat.lt_of_lt_of_le (Nat.add_lt_add_right b4 32) (by decide)
  have sm : ∀ {c : Nat}, c < 300 → c ≠ 0x3A3 := fun hc => Nat.ne_of_lt (Nat.lt_trans hc (by decide))
  have b8 : bg < 300 := Nat.lt_trans b4 (by decide)
  refine ⟨?_, foldS_one b1 (low1_of b2 (sm b8)), ?_, ?_, ?_⟩
  · rw [kc]
    unfold foldS
    rw [a1]
  · exact all11 (P := fun k => hidT (alph f kn h bg k1 k2 k : Nat) = decide (k = 6)) (few 13 (by simp)).2 (few 10 (by simp)).2 (few 46 (by simp)).2 f2 a4 f4 hh b5 b6 a10 a11
  · exact all11 (P := fun k => low1 (alph f kn h bg k1 k2 k) = mk [alph f kn h bg k1 k2 (sig k)]) (few 13 (by simp)).1 (few 10 (by simp)).1 (few 46 (by simp)).1 f1 (low1_of a2 a3) f3 (low1_of h2 h3) (low1_of b2 (sm b8)) (low1_of b3 (sm b7)) (low1_of a6 a8) (low1_of a7 a9)
  · unfold baseOk at nd
    rw [Bool.and_eq_true, List.all_eq_true, decide_eq_true_eq] at nd
    refine nd_join nd.1 (fun c hc => ?_) hf.1 hf.2 oh
    have := Bool.and_eq_true_iff.mp (nd.2 c hc)
    exact ⟨out_cj this.1, ne c (Bool.not_eq_true' _ ▸ this.2)⟩
theorem ne01_eq (a b : Nat) : ne01 (decide (a % 2 = 1)) (decide (b % 2 = 1)) = ((a % 2 : Nat) : Int) + ((b % 2 : Nat) : Int) - 2 * (((a % 2 : Nat) : Int) * ((b % 2 : Nat) : Int)) := by
  have ha : a % 2 = 0 ∨ a % 2 = 1 := by omega
  have hb : b % 2 = 0 ∨ b % 2 = 1 := by omega
  rcases ha with h | h <;> rcases hb with h' | h' <;> (rw [h, h']; rfl)
theorem ne01_sym (a b : Bool) : ne01 a b = ne01 b a := by cases a <;> cases b <;> rfl
theorem ne01_bd (a b : Bool) : 0 ≤ ne01 a b ∧ ne01 a b ≤ 1 := by cases a <;> cases b <;> decide
theorem plain_law (nums : List Nat) (hn : nums.length = 7) : PlainLaw b3T hidT nums := by
  have hp : nums.getD 0 0 / 4 % 8 < 8 := Nat.mod_lt _ (by decide)
  have hb : nums.getD 0 0 / 32 % 16 < 16 := Nat.mod_lt _ (by decide)
  have he : nums.getD 0 0 % 4 < 4 := Nat.mod_lt _ (by decide)
  have hz : nums.getD 1 0 / 27 % 20000 < 20000 := Nat.mod_lt _ (by decide)
  have S := signs_ok (nums.getD 0 0 / 4 % 8) (nums.getD 0 0 / 32 % 16) (nums.getD 1 0) (nums.getD 1 0 / 27 % 20000) hp hb hz
  have hc0 : cost0 (nums.getD 0 0) = k0 (nums.getD 0 0 % 4) := rfl
  have hc1 : cost1 (nums.getD 0 0) = k1c (kdOf (nums.getD 0 0 / 4 % 8)) := by
    unfold cost1 k1c kdOf
    by_cases a : nums.getD 0 0 / 4 % 8 < 2
    · rw [if_pos a, if_pos a, if_pos rfl]
    · rw [if_neg a, if_neg a]
      by_cases b : nums.getD 0 0 / 4 % 8 < 4
      · rw [if_pos b, if_neg (by decide)]
      · rw [if_neg b, if_neg (by decide)]
  have hk : kdOf (nums.getD 0 0 / 4 % 8) < 3 := by unfold kdOf; split; decide; split <;> decide
  have hl5 : (nums.drop 2).length = 5 := by rw [List.length_drop, hn]
  have f1 : (foldS b3T (knotsL.getD (nums.getD 0 0 / 4 % 8) 0)).length ≤ 2 := by
    rw [S.knot, mk_length, List.length_map]
    unfold knotCode
    split
    · decide
    · split <;> decide
  have f2 : (foldS b3T (bigsL.getD (nums.getD 0 0 / 32 % 16) 0)).length ≤ 2 := by rw [S.big]; show 1 ≤ 2; decide
  have hm : mailsL b3T hidT nums = (nums.drop 2).map fun num => mailX (nums.getD 0 0 % 4) (kdOf (nums.getD 0 0 / 4 % 8)) (19968 + nums.getD 1 0 / 27 % 20000) (knotsL.getD (nums.getD 0 0 / 4 % 8) 0) (hidNums.getD (nums.getD 1 0 % 27) 0) (bigsL.getD (nums.getD 0 0 / 32 % 16) 0) (kl1 (nums.getD 0 0 / 4 % 8)) (kl2 (nums.getD 0 0 / 4 % 8)) (bitB num 0) (bitB num 1) (bitB num 2) (bitB num 3) := by
    unfold mailsL mlsOf
    refine List.map_congr_left fun num _ => ?_
    rw [mail_text (kd := kdOf (nums.getD 0 0 / 4 % 8)) (k1 := kl1 (nums.getD 0 0 / 4 % 8)) (k2 := kl2 (nums.getD 0 0 / 4 % 8)) he]
    exact mail_of S he hk num
  have far := mail_far S he hk
  have hlen : ∀ q k hh s, (mailX (nums.getD 0 0 % 4) (kdOf (nums.getD 0 0 / 4 % 8)) (19968 + nums.getD 1 0 / 27 % 20000) (knotsL.getD (nums.getD 0 0 / 4 % 8) 0) (hidNums.getD (nums.getD 1 0 % 27) 0) (bigsL.getD (nums.getD 0 0 / 32 % 16) 0) (kl1 (nums.getD 0 0 / 4 % 8)) (kl2 (nums.getD 0 0 / 4 % 8)) q k hh s).length ≤ 200 := fun q k hh s => by
    have := (mid_lt ⟨_, he⟩ ⟨_, hk⟩ q k hh s).2
    dsimp only at this
    unfold mailX
    rw [List.length_map]
    omega
  generalize mailX (nums.getD 0 0 % 4) (kdOf (nums.getD 0 0 / 4 % 8)) (19968 + nums.getD 1 0 / 27 % 20000) (knotsL.getD (nums.getD 0 0 / 4 % 8) 0) (hidNums.getD (nums.getD 1 0 % 27) 0) (bigsL.getD (nums.getD 0 0 / 32 % 16) 0) (kl1 (nums.getD 0 0 / 4 % 8)) (kl2 (nums.getD 0 0 / 4 % 8)) = X at hm far hlen
  have hk0 : 0 ≤ k0 (nums.getD 0 0 % 4) ∧ k0 (nums.getD 0 0 % 4) ≤ 4 := by unfold k0; split <;> decide
  have hk1 : 0 ≤ k1c (kdOf (nums.getD 0 0 / 4 % 8)) ∧ k1c (kdOf (nums.getD 0 0 / 4 % 8)) ≤ 4 := by unfold k1c; split <;> decide
  have hget : ∀ i, i < 5 → (mailsL b3T hidT nums).getD i [] = X (bitB ((nums.drop 2).getD i 0) 0) (bitB ((nums.drop 2).getD i 0) 1) (bitB ((nums.drop 2).getD i 0) 2) (bitB ((nums.drop 2).getD i 0) 3) := by
    intro i hi
    rw [hm, List.getD_eq_getElem?_getD, List.getElem?_map, List.getElem?_eq_getElem (by omega), List.getD_eq_getElem?_getD, List.getElem?_eq_getElem (by omega)]
    rfl
  rw [← hc0, ← hc1] at far
  have hD : ∀ i j, i < 5 → j < 5 → farD (mailsL b3T hidT nums) (cost0 (nums.getD 0 0) + cost1 (nums.getD 0 0) + 3) i j =
      cost0 (nums.getD 0 0) * ne01 (bitB ((nums.drop 2).getD i 0) 0) (bitB ((nums.drop 2).getD j 0) 0) + cost1 (nums.getD 0 0) * ne01 (bitB ((nums.drop 2).getD i 0) 1) (bitB ((nums.drop 2).getD j 0) 1) + 2 * ne01 (bitB ((nums.drop 2).getD i 0) 2) (bitB ((nums.drop 2).getD j 0) 2) + 1 * ne01 (bitB ((nums.drop 2).getD i 0) 3) (bitB ((nums.drop 2).getD j 0) 3) := by
    intro i j hi hj
    unfold farD
    rw [hget i hi, hget j hj]
    exact far ..
  have hM : ∀ i j, i < 5 → j < 5 → farM (mailsL b3T hidT nums) (cost0 (nums.getD 0 0) + cost1 (nums.getD 0 0) + 3) i j =
      cost0 (nums.getD 0 0) * ne01 (bitB ((nums.drop 2).getD i 0) 0) (bitB ((nums.drop 2).getD j 0) 0) + cost1 (nums.getD 0 0) * ne01 (bitB ((nums.drop 2).getD i 0) 1) (bitB ((nums.drop 2).getD j 0) 1) + 2 * ne01 (bitB ((nums.drop 2).getD i 0) 2) (bitB ((nums.drop 2).getD j 0) 2) + 1 * ne01 (bitB ((nums.drop 2).getD i 0) 3) (bitB ((nums.drop 2).getD j 0) 3) := by
    intro i j hi hj
    unfold farM
    rw [if_pos ⟨hi, hj⟩]
    by_cases hij : i ≤ j
    · rw [Nat.min_eq_left hij, Nat.max_eq_right hij, hD i j hi hj]
    · rw [Nat.min_eq_right (by omega), Nat.max_eq_left (by omega), hD j i hj hi, ne01_sym (bitB ((nums.drop 2).getD j 0) 0), ne01_sym (bitB ((nums.drop 2).getD j 0) 1), ne01_sym (bitB ((nums.drop 2).getD j 0) 2), ne01_sym (bitB ((nums.drop 2).getD j 0) 3)]
  rw [← hc0] at hk0
  rw [← hc1] at hk1
  refine ⟨f1, f2, fun x hx => ?_, fun i j => ?_, ?_⟩
  · rw [hm] at hx
    obtain ⟨num, _, rfl⟩ := List.mem_map.mp hx
    exact hlen ..
  · have b16 : bnd 0 = 16 := by decide
    rw [b16]
    by_cases hij : i < 5 ∧ j < 5
    · rw [hM i j hij.1 hij.2]
      have m : ∀ (c : Int) (a b : Bool), 0 ≤ c → 0 ≤ c * ne01 a b ∧ c * ne01 a b ≤ c := by
        intro c a b hc
        unfold ne01
        split
        · rw [Int.mul_zero]; omega
        · rw [Int.mul_one]; omega
      have m0 := m (cost0 (nums.getD 0 0)) (bitB ((nums.drop 2).getD i 0) 0) (bitB ((nums.drop 2).getD j 0) 0) hk0.1
      have m1 := m (cost1 (nums.getD 0 0)) (bitB ((nums.drop 2).getD i 0) 1) (bitB ((nums.drop 2).getD j 0) 1) hk1.1
      have m2 := ne01_bd (bitB ((nums.drop 2).getD i 0) 2) (bitB ((nums.drop 2).getD j 0) 2)
      have m3 := ne01_bd (bitB ((nums.drop 2).getD i 0) 3) (bitB ((nums.drop 2).getD j 0) 3)
      omega
    · unfold farM
      rw [if_neg hij]
      decide
  · rw [bar5, bar5]
    have e : ∀ i j, i < 5 → j < 5 → farM (mailsL b3T hidT nums) (cost0 (nums.getD 0 0) + cost1 (nums.getD 0 0) + 3) i j = farF (cost0 (nums.getD 0 0)) (cost1 (nums.getD 0 0)) 2 1 (doneM (nums.drop 2)) i j := by
      intro i j hi hj
      rw [hM i j hi hj]
      unfold farF bitB
      rw [ne01_eq, ne01_eq, ne01_eq, ne01_eq]
      rfl
    rw [D5_congr e, det_law _ _ _ _ _ fun i => rfl]
    generalize D5 (doneM (nums.drop 2)) = dv
    grind
end Mine
end

section
open PySem PySem.W PyProof.Rows PySem.Calls
set_option Elab.async false
set_option linter.unusedVariables false
set_option maxRecDepth 100000
set_option maxHeartbeats 8000000
namespace Mine
/-! the module, as the head leaves it -/
noncomputable def findKv (kv : List (Int × Str)) (i : Int) : Option Str := (kv.find? fun p => p.1 == i).map (·.2)
theorem ents_find : ∀ (l : List DictEntry) (kv : List (Int × Str)), l.map er = kv.map sp → ∀ i, Vm (match findKv kv i with | some x => S x | none => .none) (((l.find? fun e => Value.isInt i e.key).map (·.val)).getD .none)
  | [], [], _, i => Vm.refl _
  | [], _ :: _, h, _ => by simp at h
  | _ :: _, [], h, _ => by simp at h
  | e :: l, p :: kv, h, i => by
    simp only [List.map_cons, List.cons.injEq] at h
    obtain ⟨h1, h2⟩ := h
    have ih := ents_find l kv h2 i
    unfold er sp at h1
    simp only [Prod.mk.injEq] at h1
    obtain ⟨t, ht⟩ := kI_some h1.2.1
    obtain ⟨u, hu⟩ := sO_some h1.2.2
    have hk : Value.isInt i e.key = (p.1 == i) := by rw [ht]; rfl
    unfold findKv at ih ⊢
    rw [List.find?_cons, List.find?_cons, hk]
    cases hc : (p.1 == i) with
    | true =>
      show Vm (S p.2) e.val
      rw [hu]
      exact Vm.str
    | false => exact ih
theorem map_of_ents {w : World} {h : Heap} {a : Addr} {es : Array DictEntry} {n : Nat} {kv : List (Int × Str)} (hg : h.get? a = some (dOb es n)) (he : Ents es kv) : h.MapOf (intKind pw w) a (fun i => findBy Value.isInt es i) := by
  refine ⟨_, es, n, hg, ⟨rfl, rfl, rfl⟩, rfl, fun e hm => ?_, fun k => rfl⟩
  have : er e ∈ es.toList.map er := List.mem_map_of_mem (Array.mem_toList_iff.mpr hm)
  unfold Ents at he
  rw [he] at this
  obtain ⟨p, _, hp⟩ := List.mem_map.mp this
  unfold er sp at hp
  simp only [Prod.mk.injEq] at hp
  obtain ⟨t, ht⟩ := kI_some hp.2.1.symm
  exact ⟨p.1, by rw [ht]; show (p.1 == p.1) = true; simp, hp.1.symm⟩
theorem ents_val {es : Array DictEntry} {kv : List (Int × Str)} (he : Ents es kv) (i : Int) : Vm (match findKv kv i with | some x => S x | none => .none) ((findBy Value.isInt es i).getD .none) := by
  have := ents_find es.toList kv he i
  unfold findBy
  rwa [← Array.find?_toList]
theorem ns_is {h : Heap} {a : Addr} {m : Str → Option Value} {c : Value} {dd : Option Addr} {es : Array DictEntry} {ep : Nat} {sl : Array (Option Value)} (hn : h.Ns a m) (hg : h.get? a = some ⟨c, dd, .dict es ep, sl⟩) : ∀ x, m x = nsFind es x := by
  obtain ⟨o, es', ep', ho, hd, _, hf⟩ := hn
  rw [hg] at ho
  cases ho
  cases hd
  exact fun x => (hf x).symm
end Mine
end

section
open PySem PySem.W PyProof.Rows PySem.Calls
set_option Elab.async false
set_option linter.unusedVariables false
set_option maxRecDepth 100000
set_option maxHeartbeats 8000000
namespace Mine
noncomputable def es3 (P : Params) : Array DictEntry := match (o3E P).data with | .dict es _ => es | _ => #[]
noncomputable def es0 (P : Params) : Array DictEntry := match (o0Z P).data with | .dict es _ => es | _ => #[]
noncomputable def ep3 (P : Params) : Nat := match (o3E P).data with | .dict _ n => n | _ => 0
noncomputable def ep0 (P : Params) : Nat := match (o0Z P).data with | .dict _ n => n | _ => 0
theorem here0 (P : Params) (d : Nat → Obj) : (tE P d).get 0 = some (o0Z P) := by kernel_rfl
theorem here1 (P : Params) (d : Nat → Obj) : (tE P d).get 1 = some (o1Z P) := by kernel_rfl
theorem here3 (P : Params) (d : Nat → Obj) : (tE P d).get 3 = some (o3E P) := by kernel_rfl
theorem here38 (P : Params) (d : Nat → Obj) : (tE P d).get 38 = some (o38A P) := by kernel_rfl
theorem here37 (P : Params) (d : Nat → Obj) : (tE P d).get 37 = some (o37A P) := by kernel_rfl
theorem here45 (P : Params) (d : Nat → Obj) : (tE P d).get 45 = some (o45A P) := by kernel_rfl
theorem here44 (P : Params) (d : Nat → Obj) : (tE P d).get 44 = some (o44A P) := by kernel_rfl
theorem here62 (P : Params) (d : Nat → Obj) : (tE P d).get 62 = some (o62A P) := by kernel_rfl
theorem here61 (P : Params) (d : Nat → Obj) : (tE P d).get 61 = some (o61A P) := by kernel_rfl
theorem here80 (P : Params) (d : Nat → Obj) : (tE P d).get 80 = some (o80C P) := by kernel_rfl
theorem here79 (P : Params) (d : Nat → Obj) : (tE P d).get 79 = some (o79C P) := by kernel_rfl
theorem here126 (P : Params) (d : Nat → Obj) : (tE P d).get 126 = some (o126E P) := by kernel_rfl
theorem here125 (P : Params) (d : Nat → Obj) : (tE P d).get 125 = some (o125E P) := by kernel_rfl
theorem here131 (P : Params) (d : Nat → Obj) : (tE P d).get 131 = some (o131E P) := by kernel_rfl
theorem here130 (P : Params) (d : Nat → Obj) : (tE P d).get 130 = some (o130E P) := by kernel_rfl
theorem here136 (P : Params) (d : Nat → Obj) : (tE P d).get 136 = some (o136E P) := by kernel_rfl
theorem here135 (P : Params) (d : Nat → Obj) : (tE P d).get 135 = some (o135E P) := by kernel_rfl
theorem here141 (P : Params) (d : Nat → Obj) : (tE P d).get 141 = some (o141E P) := by kernel_rfl
theorem here140 (P : Params) (d : Nat → Obj) : (tE P d).get 140 = some (o140E P) := by kernel_rfl
theorem here49 (P : Params) (d : Nat → Obj) : (tE P d).get 49 = some (o49A P) := by kernel_rfl
theorem here50 (P : Params) (d : Nat → Obj) : (tE P d).get 50 = some (o50A P) := by kernel_rfl
theorem here54 (P : Params) (d : Nat → Obj) : (tE P d).get 54 = some (o54A P) := by kernel_rfl
theorem here55 (P : Params) (d : Nat → Obj) : (tE P d).get 55 = some (o55A P) := by kernel_rfl
theorem here70 (P : Params) (d : Nat → Obj) : (tE P d).get 70 = some (o70B P) := by kernel_rfl
theorem here81 (P : Params) (d : Nat → Obj) : (tE P d).get 81 = some (d 0) := by kernel_rfl
theorem mg__substitution_cost (P : Params) : nsFind (es3 P) "_substitution_cost" = some (.ref 38) := by kernel_rfl
theorem mg__levenshtein_distance (P : Params) : nsFind (es3 P) "_levenshtein_distance" = some (.ref 45) := by kernel_rfl
theorem mg_quotedata (P : Params) : nsFind (es3 P) "quotedata" = some (.ref 62) := by kernel_rfl
theorem mg_in_table_b1 (P : Params) : nsFind (es3 P) "in_table_b1" = some (.ref 80) := by kernel_rfl
theorem mg_map_table_b3 (P : Params) : nsFind (es3 P) "map_table_b3" = some (.ref 126) := by kernel_rfl
theorem mg__law_mail (P : Params) : nsFind (es3 P) "_law_mail" = some (.ref 131) := by kernel_rfl
theorem mg__law_determinant (P : Params) : nsFind (es3 P) "_law_determinant" = some (.ref 136) := by kernel_rfl
theorem mg_law (P : Params) : nsFind (es3 P) "law" = some (.ref 141) := by kernel_rfl
theorem mg__twin_re_1 (P : Params) : nsFind (es3 P) "_twin_re_1" = some (.ref 50) := by kernel_rfl
theorem mg__twin_re_2 (P : Params) : nsFind (es3 P) "_twin_re_2" = some (.ref 55) := by kernel_rfl
theorem mg_b1_set (P : Params) : nsFind (es3 P) "b1_set" = some (.ref 70) := by kernel_rfl
theorem mg_b3_exceptions (P : Params) : nsFind (es3 P) "b3_exceptions" = some (.ref 81) := by kernel_rfl
theorem mg__CASE_COST (P : Params) : nsFind (es3 P) "_CASE_COST" = some (.int 1 288) := by kernel_rfl
theorem mg__MOVE_COST (P : Params) : nsFind (es3 P) "_MOVE_COST" = some (.int 2 286) := by kernel_rfl
theorem mg__MAX_STRING_SIZE (P : Params) : nsFind (es3 P) "_MAX_STRING_SIZE" = some (.int 40 284) := by kernel_rfl
theorem mg_CRLF (P : Params) : nsFind (es3 P) "CRLF" = some (.str (mk [13, 10]) 378) := by kernel_rfl
theorem no_len (P : Params) : nsFind (es3 P) "len" = none := by kernel_rfl
theorem mb_len (P : Params) : nsFind (es0 P) "len" = some (.builtin "len") := by kernel_rfl
theorem no_list (P : Params) : nsFind (es3 P) "list" = none := by kernel_rfl
theorem mb_list (P : Params) : nsFind (es0 P) "list" = some (.type "list") := by kernel_rfl
theorem no_range (P : Params) : nsFind (es3 P) "range" = none := by kernel_rfl
theorem mb_range (P : Params) : nsFind (es0 P) "range" = some (.type "range") := by kernel_rfl
theorem no_min (P : Params) : nsFind (es3 P) "min" = none := by kernel_rfl
theorem mb_min (P : Params) : nsFind (es0 P) "min" = some (.builtin "min") := by kernel_rfl
theorem no_ord (P : Params) : nsFind (es3 P) "ord" = none := by kernel_rfl
theorem mb_ord (P : Params) : nsFind (es0 P) "ord" = some (.builtin "ord") := by kernel_rfl
theorem no_chr (P : Params) : nsFind (es3 P) "chr" = none := by kernel_rfl
theorem mb_chr (P : Params) : nsFind (es0 P) "chr" = some (.builtin "chr") := by kernel_rfl
theorem no_sum (P : Params) : nsFind (es3 P) "sum" = none := by kernel_rfl
theorem mb_sum (P : Params) : nsFind (es0 P) "sum" = some (.builtin "sum") := by kernel_rfl
theorem no_enumerate (P : Params) : nsFind (es3 P) "enumerate" = none := by kernel_rfl
theorem mb_enumerate (P : Params) : nsFind (es0 P) "enumerate" = some (.type "enumerate") := by kernel_rfl
noncomputable def setEs (P : Params) : List (Int × Value) := match (o70B P).data with | .set es _ _ => es.toList | _ => []
theorem set_data (P : Params) : ∃ ep t, (o70B P).data = .set (setEs P).toArray ep t ∧ t.fits 27 = true := ⟨_, _, rfl, rfl⟩
noncomputable def elemOk (e : Int × Value) : Bool := match e.2 with | .int i _ => e.1 == hashInt i && hidT i && e.2.scannable | _ => false
theorem set_all (P : Params) : (setEs P).all elemOk = true := by kernel_rfl
theorem set_has (P : Params) : (hidNums.all fun x => (setEs P).any fun e => Value.isInt (x : Nat) e.2) = true := by kernel_rfl
theorem set_size (P : Params) : (setEs P).length = 27 := by kernel_rfl
theorem set_of {w : World} {h : Heap} (hg : h.get? 70 = some (o70B w.params)) : h.SetOf (intKind pw w) 70 hidT 27 := by
  obtain ⟨ep, t, hd, hf⟩ := set_data w.params
  have hall := List.all_eq_true.mp (set_all w.params)
  have elem : ∀ e ∈ setEs w.params, ∃ i u, e.2 = .int i u ∧ e.1 = hashInt i ∧ hidT i = true ∧ e.2.scannable = true := by
    intro e he
    have := hall e he
    unfold elemOk at this
    split at this
    · rename_i i u h2
      simp only [Bool.and_eq_true, beq_iff_eq] at this
      exact ⟨i, u, h2, this.1.1, this.1.2, this.2⟩
    · cases this
  refine ⟨o70B w.params, (setEs w.params).toArray, ep, t, hg, ⟨rfl, rfl, rfl⟩, hd, fun e he => ?_, fun k => ⟨fun hk => ?_, fun z00 => z00.elim fun e z00 => z00.elim fun he hk => ?_⟩, ?_, ?_, ?_⟩
  · obtain ⟨i, u, h1, h2, h3, h4⟩ := elem e he
    exact ⟨⟨i, by rw [h1]; show (i == i) = true; simp, h2⟩, h4⟩
  · unfold hidT at hk
    rw [List.contains_iff_mem, List.mem_map] at hk
    obtain ⟨x, hx, rfl⟩ := hk
    obtain ⟨e, he, h2⟩ := List.any_eq_true.mp (List.all_eq_true.mp (set_has w.params) x hx)
    exact ⟨e, he, h2⟩
  · obtain ⟨i, u, h1, h2, h3, h4⟩ := elem e he
    have : k = i := by
      rw [h1] at hk
      have hk' : (i == k) = true := hk
      exact (beq_iff_eq.mp hk').symm
    rw [this]
    exact h3
  · rw [List.size_toArray, set_size]
    decide
  · rw [List.size_toArray, set_size]
    exact hf
  · rw [List.size_toArray, set_size]
theorem base_of {w : World} {s₀ s₁ : Shared} {mg mb : Str → Option Value} (hg : s₁.heap.Ns mainGlobals mg) (hb : s₁.heap.Ns builtinsNs mb) (hl : s₁.heap.NoLimit) (T : TopAt tE 142 kvs w s₀) (keep : ∀ b o, s₀.heap.get? b = some o → s₁.heap.get? b = some o) :
    Base w mg mb b3T hidT s₁ ∧ LawFns mg s₁.heap ∧ FnAtX s₁.heap 141 "law" (fnP 20) (fnB 20) (fnS 20) ∧ mg "law" = some (.ref 141) := by
  obtain ⟨d, es, m, R, hd, he⟩ := T
  have look : ∀ (a : Nat) (o : Obj), Nat.blt a 142 = true → (tE w.params d).get a = some o → alive o = some o → s₁.heap.get? a = some o := fun a o h1 h2 h3 => keep _ _ (R.look h1 h2 h3)
  have m3 : ∀ x, mg x = nsFind (es3 w.params) x := ns_is hg (look 3 (o3E w.params) rfl (here3 _ _) rfl)
  have m0 : ∀ x, mb x = nsFind (es0 w.params) x := ns_is hb (look 0 (o0Z w.params) rfl (here0 _ _) rfl)
  have hdict : s₁.heap.get? 81 = some (dOb es m) := look 81 _ rfl (by rw [here81, hd]) rfl
  have keep' : ∀ {a : Nat} {o : Obj}, s₁.heap.get? a = some o → ∀ s' : Shared, (∀ b o, s₁.heap.get? b = some o → s'.heap.get? b = some o) → s'.heap.get? a = some o := fun h s' k => k _ _ h
  have f__substitution_cost : FnAtX s₁.heap 38 "_substitution_cost" (fnP 5) (fnB 5) (fnS 5) := ⟨o38A w.params, _, _, _, look 38 _ rfl (here38 _ _) rfl, rfl, ⟨37, o37A w.params, _, _, rfl, look 37 _ rfl (here37 _ _) rfl, rfl, rfl⟩⟩
  have f__levenshtein_distance : FnAtX s₁.heap 45 "_levenshtein_distance" (fnP 6) (fnB 6) (fnS 6) := ⟨o45A w.params, _, _, _, look 45 _ rfl (here45 _ _) rfl, rfl, ⟨44, o44A w.params, _, _, rfl, look 44 _ rfl (here44 _ _) rfl, rfl, rfl⟩⟩
  have f_quotedata : FnAtX s₁.heap 62 "quotedata" (fnP 11) (fnB 11) (fnS 11) := ⟨o62A w.params, _, _, _, look 62 _ rfl (here62 _ _) rfl, rfl, ⟨61, o61A w.params, _, _, rfl, look 61 _ rfl (here61 _ _) rfl, rfl, rfl⟩⟩
  have f_in_table_b1 : FnAtX s₁.heap 80 "in_table_b1" (fnP 14) (fnB 14) (fnS 14) := ⟨o80C w.params, _, _, _, look 80 _ rfl (here80 _ _) rfl, rfl, ⟨79, o79C w.params, _, _, rfl, look 79 _ rfl (here79 _ _) rfl, rfl, rfl⟩⟩
  have f_map_table_b3 : FnAtX s₁.heap 126 "map_table_b3" (fnP 16) (fnB 16) (fnS 16) := ⟨o126E w.params, _, _, _, look 126 _ rfl (here126 _ _) rfl, rfl, ⟨125, o125E w.params, _, _, rfl, look 125 _ rfl (here125 _ _) rfl, rfl, rfl⟩⟩
  have f__law_mail : FnAtX s₁.heap 131 "_law_mail" (fnP 18) (fnB 18) (fnS 18) := ⟨o131E w.params, _, _, _, look 131 _ rfl (here131 _ _) rfl, rfl, ⟨130, o130E w.params, _, _, rfl, look 130 _ rfl (here130 _ _) rfl, rfl, rfl⟩⟩
  have f__law_determinant : FnAtX s₁.heap 136 "_law_determinant" (fnP 19) (fnB 19) (fnS 19) := ⟨o136E w.params, _, _, _, look 136 _ rfl (here136 _ _) rfl, rfl, ⟨135, o135E w.params, _, _, rfl, look 135 _ rfl (here135 _ _) rfl, rfl, rfl⟩⟩
  have f_law : FnAtX s₁.heap 141 "law" (fnP 20) (fnB 20) (fnS 20) := ⟨o141E w.params, _, _, _, look 141 _ rfl (here141 _ _) rfl, rfl, ⟨140, o140E w.params, _, _, rfl, look 140 _ rfl (here140 _ _) rfl, rfl, rfl⟩⟩
  have names : Names mg mb := ⟨⟨_, (m3 _).trans (mg__CASE_COST _)⟩, ⟨_, (m3 _).trans (mg__MOVE_COST _)⟩, ⟨_, (m3 _).trans (mg__MAX_STRING_SIZE _)⟩, (m3 _).trans (mg__substitution_cost _),
    (m3 _).trans (no_len _), (m3 _).trans (no_list _), (m3 _).trans (no_range _), (m3 _).trans (no_min _), (m0 _).trans (mb_len _), (m0 _).trans (mb_list _), (m0 _).trans (mb_range _), (m0 _).trans (mb_min _)⟩
  have hp1 : PatAt s₁.heap 50 code1 := ⟨o50A w.params, _, 49, o49A w.params, _, _, look 50 _ rfl (here50 _ _) rfl, rfl, rfl, rfl, rfl, rfl, rfl, look 49 _ rfl (here49 _ _) rfl, rfl, (fun h => absurd (Value.type.inj h) (by decide)), by kernel_rfl⟩
  have hp2 : PatAt s₁.heap 55 code2 := ⟨o55A w.params, _, 54, o54A w.params, _, _, look 55 _ rfl (here55 _ _) rfl, rfl, rfl, rfl, rfl, rfl, rfl, look 54 _ rfl (here54 _ _) rfl, rfl, (fun h => absurd (Value.type.inj h) (by decide)), by kernel_rfl⟩
  have gb : GB mg mb s₁.heap := ⟨hg, hb, hl, Heap.lt_size (look 1 (o1Z w.params) rfl (here1 _ _) rfl)⟩
  refine ⟨⟨gb, names, f__substitution_cost, f__levenshtein_distance, f_quotedata, f_in_table_b1, f_map_table_b3, (m3 _).trans (mg__levenshtein_distance _), (m3 _).trans (mg_quotedata _), (m3 _).trans (mg_in_table_b1 _), (m3 _).trans (mg_map_table_b3 _),
    (m3 _).trans (mg__twin_re_1 _), (m3 _).trans (mg__twin_re_2 _), hp1, hp2, ⟨_, (m3 _).trans (mg_CRLF _)⟩, (m3 _).trans (no_ord _), (m0 _).trans (mb_ord _), (m3 _).trans (no_chr _), (m0 _).trans (mb_chr _), (m3 _).trans (no_sum _), (m0 _).trans (mb_sum _),
    (m3 _).trans (no_enumerate _), (m0 _).trans (mb_enumerate _), (m3 _).trans (mg_b1_set _), ⟨27, fun s' k => set_of (k _ _ (look 70 _ rfl (here70 _ _) rfl))⟩, (m3 _).trans (mg_b3_exceptions _), ⟨_, hdict, rfl, rfl⟩,
    fun i => findBy Value.isInt es i, fun s' k => map_of_ents (k _ _ hdict) he, fun i => ents_val he i⟩, ⟨f__law_mail, f__law_determinant, (m3 _).trans (mg__law_mail _), (m3 _).trans (mg__law_determinant _)⟩, f_law, (m3 _).trans (mg_law _)⟩
end Mine
end

section
open PySem PySem.W PyProof.Rows PySem.Calls
set_option Elab.async false
set_option linter.unusedVariables false
set_option maxRecDepth 100000
set_option maxHeartbeats 8000000
namespace Mine
abbrev lawRow : OpenRow := PySem.Challenge.rw_rl0109_01.row
theorem bare_ok : lawRow.prog.bare := ⟨rfl, rfl, rfl, rfl, rfl, by decide +kernel⟩
theorem opens_ok : (opensWell lawRow.prog && (frees lawRow.toRowW && lawRow.within.isEmpty)) = true := by decide +kernel
theorem row_said_ok : lawRow.wellSaid = true := by
  unfold OpenRow.wellSaid OpenRow.partSaid
  simp only [Bool.and_eq_true]
  repeat' apply And.intro
  all_goals kernel_rfl
theorem said_ok : PySem.Challenge.rw_rl0109_01.wellSaid = true := by
  unfold OpenLaw.wellSaid
  simp only [Bool.and_eq_true]
  repeat' apply And.intro
  · exact row_said_ok
  all_goals kernel_rfl
theorem items_int {R : WRecords} : ∀ {ds : List WData}, WShape.hasItems R ds .int = true → ∃ xs : List Int, ds = xs.map WData.int
  | [], _ => ⟨[], rfl⟩
  | d :: ds, h => by
    unfold WShape.hasItems at h
    rw [Bool.and_eq_true] at h
    obtain ⟨i, rfl⟩ := hasW_int h.1
    obtain ⟨xs, rfl⟩ := items_int h.2
    exact ⟨i :: xs, rfl⟩
theorem reads_ints {R : WRecords} {cl : Str → Option Addr} {h : Heap} : ∀ {vs : List Value} {xs : List Int} {as : List Addr}, ReadsAllW R cl h vs (xs.map WData.int) as → Paired Vm (xs.map I) vs
  | _, [], _, r => by cases r; exact .nil
  | _, x :: xs, _, r => by
    cases r with
    | cons r1 r2 =>
      cases r1
      exact .cons Vm.int (reads_ints r2)
theorem args_of {R : WRecords} {cl : Str → Option Addr} {h : Heap} {args : List WData} {vs : List Value} {as : List Addr} (hs : WShape.hasAll R args [.list .int] = true) (hr : ReadsAllW R cl h vs args as) :
    ∃ (Sc : Addr) (xs : List Int), args = [.list (xs.map WData.int)] ∧ vs = [.ref Sc] ∧ RdAt h Sc (xs.map I) := by
  obtain ⟨d, r, rfl, h1, h2⟩ := hasAllW_cons hs
  obtain rfl := hasAllW_nil h2
  obtain ⟨ds, rfl, h3⟩ := hasW_list h1
  obtain ⟨xs, rfl⟩ := items_int h3
  cases hr with
  | cons r1 r2 =>
    cases r2
    cases r1 with
    | list g1 g2 g3 g4 => exact ⟨_, xs, rfl, rfl, _, ⟨_, g1, g2, _, g3⟩, reads_ints g4⟩
theorem pin_ok (w : World) (s : Shared) (hg : s.heap.isNs mainGlobals = true) (T : TopAt tE 142 kvs w s) : isTheDefsW lawRow.prog s.heap "law" := by
  obtain ⟨d, es, m, R, hd, he⟩ := T
  have look : ∀ (a : Nat) (o : Obj), Nat.blt a 142 = true → (tE w.params d).get a = some o → alive o = some o → s.heap.get? a = some o := fun a o h1 h2 h3 => R.look h1 h2 h3
  have m3 := ns_is (Heap.Ns.of_isNs hg) (look 3 (o3E w.params) rfl (here3 _ _) rfl)
  refine ⟨141, o141E w.params, _, fnP 20, fnB 20, fnS 20, (Pin.globalOf_eq hg _).trans ((m3 _).trans (mg_law _)), look 141 _ rfl (here141 _ _) rfl, rfl, ?_, rfl, rfl, rfl, rfl, rfl, rfl, rfl, rfl, ?_⟩
  · kernel_rfl
  · exact ⟨.inl ⟨rfl, rfl⟩, [], rfl, .inl ⟨rfl, rfl⟩⟩
theorem pre_len {xs : List Int} (h : lawRow.toRowW.pre.holds lawRow.toRowW.records { args := [.list (xs.map WData.int)] } = true) : xs.length ≤ 63 := by
  have e : lawRow.toRowW.pre = .and (.not (.lt (.lit (.int 63)) (.len (.arg 0)))) (.lit (.bool true)) := rfl
  rw [e] at h
  simp only [WTm.holds, WTm.value, List.getElem?_cons_zero, List.length_map, less?, Num.less?, Option.map_some] at h
  by_cases hc : (63 : Int) < (xs.length : Nat)
  · rw [decide_eq_true hc] at h
    simp at h
  · omega
theorem post_ok (a : List WData) : lawRow.claim.post a (.bool true) a = true := by
  show (WShape.has lawRow.toRowW.records (.bool true) .bool && WTm.holds lawRow.toRowW.records (.eq .res (.lit (.bool true))) { args := a, res := some (.bool true), after := a }) = true
  simp [WShape.has, WShape.arms, WTm.holds, WTm.value, same]
theorem call_ok {w : World} {mg mb : Str → Option Value} {s : Shared} {Sc : Addr} {xs : List Int} (B : Base w mg mb b3T hidT s) (L : LawFns mg s.heap) (hf : FnAtX s.heap 141 "law" (fnP 20) (fnB 20) (fnS 20)) (hg : s.gens = #[]) (hS : RdAt s.heap Sc (xs.map I)) (hx : xs.length ≤ 63)
    (R : Result → Shared → Prop) (h : ∀ v s', (∀ b o, s.heap.get? b = some o → s'.heap.get? b = some o) → s'.gens = #[] → s'.os = s.os → v = .bool true → R (.ok (.ret v)) s') : codeAny (model pw w) callerA (.call (.ref 141) ⟨[.ref Sc], []⟩) R s := by
  refine fx_law (n := 30) B hg hf hS hx L (plain_law _ (numsOf_len xs)) callerA ⟨rfl, Nat.le_of_ble_eq_true rfl, Nat.le_of_ble_eq_true rfl⟩ _ (.cons (Vm.refl _) .nil) _ fun v s' a H' hv k g o _ _ e => ?_
  subst e
  cases hv
  exact h _ s' k g o rfl
end Mine
end

open PySem PySem.W PyProof.Rows PySem.Calls
set_option Elab.async false
set_option linter.unusedVariables false
set_option maxRecDepth 100000
set_option maxHeartbeats 8000000
theorem PySem.Challenge.cw_rl0109_01_holds : PySem.Challenge.rw_rl0109_01.Holds := by
  refine holds_law Mine.said_ok fun said => ?_
  refine Mine.headOk.holds (r := Mine.lawRow) said Mine.opens_ok rfl Mine.bare_ok ?hw rfl ?pin ?call
  case hw => w_witness2
  case pin =>
    intro w s hg T n hn
    have hn' : n = Mine.lawRow.name := (show _ ∧ _ by simpa using hn).2
    subst hn'
    exact Mine.pin_ok w s hg T
  case call =>
    intro w s₀ s₁ mg mb G T keep gens args vs as hpre hlay hrd
    obtain ⟨hs, hp⟩ := pre_splitW (r := Mine.lawRow.toRowW) hpre
    obtain ⟨Sc, xs, rfl, rfl, hS⟩ := Mine.args_of hs hrd
    obtain ⟨B, L, hf, hm⟩ := Mine.base_of G.T.g G.T.b G.T.nolimit T keep
    refine ⟨_, hm, wpAny_call (Mine.call_ok B L hf gens hS (Mine.pre_len hp) _ fun v s' k g o e => ?_)⟩
    subst e
    exact ⟨.inl ⟨_, .bool true, [], rfl, fun _ => rfl, .bool true, Mine.post_ok _, fun _ => ⟨List.nodup_nil, fun a ha => by cases ha⟩⟩, .of_keep k, o, (by rw [g]; intro x hx; simp at hx)⟩
