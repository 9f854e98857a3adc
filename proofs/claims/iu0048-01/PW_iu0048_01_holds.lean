import PyProof.Rows.All
import Wide.All
import OpenK.AllK
import Wide.FinOn
import Lean
import PySem.Challenge.RW_iu0048_01

section
open PySem PySem.W PyProof.Rows
set_option Elab.async false
namespace Mine

abbrev pw : Program := PySem.Challenge.pw_iu0048_01
def stt (i : Nat) : Stmt := (pw.main.body[i]?).getD (.Pass default)
def bodyOf : Stmt → List Stmt
  | .FunctionDef _ _ b _ _ _ _ _ _ _ => b
  | .ClassDef _ _ _ b _ _ _ _ _ _ _ => b
  | _ => []
def argsOf : Stmt → Arguments
  | .FunctionDef _ a _ _ _ _ _ _ _ _ => a
  | _ => ⟨[], [], none, [], [], none, []⟩
def scopeOf : Stmt → Scope
  | .FunctionDef _ _ _ _ _ _ s _ _ _ => s
  | _ => default
def mth (i : Nat) : Stmt := ((bodyOf (stt 4))[i]?).getD (.Pass default)

/-! ## heaps that only grow -/
abbrev Up (h h' : Heap) : Prop := ∀ b o, h.get? b = some o → h'.get? b = some o
theorem Up.rfl' {h : Heap} : Up h h := fun _ _ e => e
theorem Up.tr {a b c : Heap} (x : Up a b) (y : Up b c) : Up a c := fun _ _ e => y _ _ (x _ _ e)
theorem Up.push {h : Heap} (o : Obj) : Up h (h.push o) := fun _ _ e => Heap.get?_push_of_some _ e

/-! ## names of a block -/
def nmGo (x : Str) : Nat → List (Str × NameKind) → Option (Nat × NameKind)
  | _, [] => none
  | i, (n, k) :: r => match x == n with
    | true => some (i, k)
    | false => nmGo x (i + 1) r
def nmAt (sc : Scope) (x : Str) : Option (Nat × NameKind) := nmGo x 0 sc.names

theorem nmGo_lookup (x : Str) : ∀ (l : List (Str × NameKind)) (n i : Nat) (k : NameKind), nmGo x n l = some (i, k) → l.lookup x = some k
  | [], _, _, _, h => by cases h
  | (y, q) :: r, n, i, k, h => by
    unfold nmGo at h
    rw [List.lookup_cons]
    cases hx : (x == y) with
    | true => rw [hx] at h; cases h; rfl
    | false => rw [hx] at h; exact nmGo_lookup x r (n + 1) i k h
theorem nmGo_ge (x : Str) : ∀ (l : List (Str × NameKind)) (n i : Nat) (k : NameKind), nmGo x n l = some (i, k) → n ≤ i
  | [], _, _, _, h => by cases h
  | (y, q) :: r, n, i, k, h => by
    unfold nmGo at h
    cases hx : (x == y) with
    | true => rw [hx] at h; cases h; exact Nat.le_refl _
    | false => rw [hx] at h; exact Nat.le_of_succ_le (nmGo_ge x r (n + 1) i k h)
theorem nmGo_inj (x y : Str) : ∀ (l : List (Str × NameKind)) (n i : Nat) (k q : NameKind), nmGo x n l = some (i, k) → nmGo y n l = some (i, q) → x = y
  | [], _, _, _, _, h, _ => by cases h
  | (z, a) :: r, n, i, k, q, h, h' => by
    unfold nmGo at h h'
    cases hx : (x == z) <;> cases hy : (y == z) <;> rw [hx] at h <;> rw [hy] at h'
    · exact nmGo_inj x y r (n + 1) i k q h h'
    · cases h'; exact absurd (nmGo_ge x r _ _ _ h) (by omega)
    · cases h; exact absurd (nmGo_ge y r _ _ _ h') (by omega)
    · rw [beq_iff_eq.mp hx, beq_iff_eq.mp hy]
theorem nmAt_lookup {sc : Scope} {x : Str} {i : Nat} {k : NameKind} (h : nmAt sc x = some (i, k)) : sc.names.lookup x = some k := nmGo_lookup x _ _ _ _ h
theorem nmAt_inj {sc : Scope} {x y : Str} {i : Nat} {k q : NameKind} (h : nmAt sc x = some (i, k)) (h' : nmAt sc y = some (i, q)) : x = y := nmGo_inj x y _ _ _ _ _ h h'

/-- the value at a place; nothing where the place is empty -/
def at' : List (Option Value) → Nat → Option Value
  | [], _ => none
  | v :: _, 0 => v
  | _ :: r, i + 1 => at' r i
def setAt : Nat → Option Value → List (Option Value) → List (Option Value)
  | _, _, [] => []
  | 0, v, _ :: r => v :: r
  | i + 1, v, a :: r => a :: setAt i v r
theorem at_setAt_ne {i j : Nat} (h : i ≠ j) (v : Option Value) : ∀ l : List (Option Value), at' (setAt i v l) j = at' l j := by
  intro l
  induction l generalizing i j with
  | nil => cases i <;> rfl
  | cons a r ih =>
    cases i with
    | zero => cases j with
      | zero => exact absurd rfl h
      | succ j => rfl
    | succ i => cases j with
      | zero => rfl
      | succ j => exact ih (fun e => h (by rw [e]))
theorem at_setAt_eq (i : Nat) (v : Option Value) : ∀ l : List (Option Value), i < l.length → at' (setAt i v l) i = v := by
  intro l
  induction l generalizing i with
  | nil => intro h; exact absurd h (Nat.not_lt_zero _)
  | cons a r ih =>
    cases i with
    | zero => intro _; rfl
    | succ i => intro h; exact ih i (Nat.lt_of_succ_lt_succ h)

/-! ## environments and frames -/
structure EnvIs (e : Env) (sc : Scope) : Prop where
  scope : e.scope = sc
  kind : sc.kind = .function
  globals : e.globals = mainGlobals
  builtins : e.builtins = builtinsNs

def mutOf (e : Env) : List Addr := e.locals :: e.cells.map (·.2)

/-- what a frame was given: the heap that it must leave as it is, and what it may not show -/
structure Base where
  h : Heap
  hid : List Addr

structure Fz (e : Env) (sc : Scope) (B : Base) (g h : Heap) (vals : List (Option Value)) : Prop where
  env : EnvIs e sc
  ns : ∃ ml, h.Ns e.locals ml ∧ ∀ x i, nmAt sc x = some (i, .local) → ml x = at' vals i
  cell : ∀ x i, nmAt sc x = some (i, .cell) → ∃ c, e.cells.lookup x = some c ∧ h.IsCell c (at' vals i)
  keep : Up B.h h
  vis : Up g h
  off : ∀ b ∈ mutOf e, B.h.get? b = none
  goff : ∀ b ∈ mutOf e, g.get? b = none
  hoff : ∀ b ∈ B.hid, g.get? b = none
  hin : ∀ b ∈ B.hid, h.get? b ≠ none
  min : ∀ b ∈ mutOf e, h.get? b ≠ none
  nd : (mutOf e).Nodup

theorem EnvIs.kindOf {e : Env} {sc : Scope} (E : EnvIs e sc) (x : Str) : e.kindOf x = sc.names.lookup x := by
  show e.scope.names.lookup x = _
  rw [E.scope]

theorem Up.size {h h' : Heap} (u : Up h h') {b : Addr} {o : Obj} (x : h.get? b = some o) : b < h'.objs.size := Heap.lt_size (u b o x)

theorem Up.in {h h' : Heap} (u : Up h h') {b : Addr} (x : h.get? b ≠ none) : h'.get? b ≠ none := by
  cases e : h.get? b with
  | some o => rw [u b o e]; exact fun z => by cases z
  | none => exact absurd e x
theorem in_lt {h : Heap} {b : Addr} (x : h.get? b ≠ none) : b < h.objs.size := by
  cases e : h.get? b with
  | some o => exact Heap.lt_size e
  | none => exact absurd e x
theorem in_but {h h' : Heap} {a b : Addr} (hs : Heap.SameBut a h h') (ha : h'.get? a ≠ none) (x : h.get? b ≠ none) : h'.get? b ≠ none := by
  by_cases z : b = a
  · exact z ▸ ha
  · rw [hs.2 b z]; exact x
theorem Ns.in {h : Heap} {a : Addr} {m} (n : h.Ns a m) : h.get? a ≠ none := let ⟨_, _, _, x, _⟩ := n; fun z => by rw [x] at z; cases z
theorem IsCell.in {h : Heap} {a : Addr} {m} (n : h.IsCell a m) : h.get? a ≠ none := let ⟨_, x, _⟩ := n; fun z => by rw [x] at z; cases z

section
variable {e : Env} {sc : Scope} {B : Base} {g h : Heap} {vals : List (Option Value)}
theorem Fz.up {h' : Heap} (F : Fz e sc B g h vals) (u : Up h h') : Fz e sc B g h' vals :=
  ⟨F.env, let ⟨ml, n, r⟩ := F.ns; ⟨ml, n.keeps u, r⟩, fun x i hx => let ⟨c, hc, q⟩ := F.cell x i hx; ⟨c, hc, q.keeps u⟩, F.keep.tr u, F.vis.tr u, F.off, F.goff, F.hoff,
    fun b m => u.in (F.hin b m), fun b m => u.in (F.min b m), F.nd⟩
theorem Fz.push (F : Fz e sc B g h vals) (o : Obj) : Fz e sc B g (h.push o) vals := F.up (Up.push o)
theorem Fz.lt (F : Fz e sc B g h vals) : e.locals < h.objs.size := let ⟨_, n, _⟩ := F.ns; n.lt
theorem Fz.locals_mem {e : Env} : e.locals ∈ mutOf e := .head _
theorem cell_mem {e : Env} {x : Str} {c : Addr} (h : e.cells.lookup x = some c) : c ∈ mutOf e := .tail _ (List.mem_map.mpr ⟨(x, c), mem_of_lookup h, rfl⟩)

/-- a bigger seen part -/
theorem Fz.see {g' : Heap} (F : Fz e sc B g h vals) (u : Up g' h) (hm : ∀ b ∈ mutOf e, g'.get? b = none) (hh : ∀ b ∈ B.hid, g'.get? b = none) : Fz e sc B g' h vals :=
  ⟨F.env, F.ns, F.cell, F.keep, u, F.off, hm, hh, F.hin, F.min, F.nd⟩
/-- all that may be seen is seen -/
def seeAll (e : Env) (B : Base) (h : Heap) : Heap := hideAll h (mutOf e ++ B.hid)
theorem Fz.max (F : Fz e sc B g h vals) : Up g (seeAll e B h) ∧ Fz e sc B (seeAll e B h) h vals :=
  ⟨fun b o x => hideAll_get _ (F.vis b o x) (fun m => by
      rcases List.mem_append.mp m with m | m
      · rw [F.goff b m] at x; cases x
      · rw [F.hoff b m] at x; cases x),
   F.see (fun _ _ x => of_hideAll _ x) (fun _ m => hideAll_none _ (List.mem_append_left _ m)) fun _ m => hideAll_none _ (List.mem_append_right _ m)⟩
theorem seeAll_get {b : Addr} {o : Obj} (x : h.get? b = some o) (hm : b ∉ mutOf e) (hh : b ∉ B.hid) : (seeAll e B h).get? b = some o :=
  hideAll_get _ x fun m => (List.mem_append.mp m).elim hm hh
/-- a new object is seen -/
theorem Fz.fresh (F : Fz e sc B g h vals) {b : Addr} (hb : h.objs.size ≤ b) : b ∉ mutOf e ∧ b ∉ B.hid :=
  ⟨fun m => absurd (in_lt (F.min b m)) (Nat.not_lt.mpr hb), fun m => absurd (in_lt (F.hin b m)) (Nat.not_lt.mpr hb)⟩
theorem Fz.see_up {g' h' : Heap} (F : Fz e sc B g h vals) (u : Up h h') (v : Up g' h') (k : ∀ b ∈ mutOf e ++ B.hid, g'.get? b = none) : Fz e sc B g' h' vals :=
  (F.up u).see v (fun b m => k b (List.mem_append_left _ m)) fun b m => k b (List.mem_append_right _ m)

/-- a smaller part to be left -/
theorem Fz.base {B' : Base} (F : Fz e sc B' g h vals) (u : Up B.h B'.h) (q : B'.hid = B.hid) : Fz e sc B g h vals :=
  ⟨F.env, F.ns, F.cell, u.tr F.keep, F.vis, (fun b m => by
    cases x : B.h.get? b with
    | none => rfl
    | some o =>
      have y := F.off b m
      rw [u b o x] at y
      cases y), F.goff, q ▸ F.hoff, q ▸ F.hin, F.min, F.nd⟩
/-- some more is to be left -/
theorem Fz.rebase (F : Fz e sc B g h vals) (ks : List Addr) (hk : ∀ b ∈ ks, b ∉ mutOf e) : ∃ B', B'.hid = B.hid ∧ Up B.h B'.h ∧ Fz e sc B' g h vals ∧
    (∀ b ∈ ks, ∀ o, h.get? b = some o → B'.h.get? b = some o) ∧ ∀ b, B'.h.get? b ≠ none → b ∈ ks ∨ B.h.get? b ≠ none := by
  have mem : ∀ b, b ∈ (List.range h.objs.size).filter (fun b => !ks.contains b && (B.h.get? b).isNone) ↔ b < h.objs.size ∧ b ∉ ks ∧ B.h.get? b = none := fun b => by
    rw [List.mem_filter, List.mem_range, Bool.and_eq_true, Bool.not_eq_true', Option.isNone_iff_eq_none]
    simp [List.contains_iff_mem]
  refine ⟨⟨hideAll h ((List.range h.objs.size).filter fun b => !ks.contains b && (B.h.get? b).isNone), B.hid⟩, rfl, fun b o x => hideAll_get _ (F.keep b o x) (fun m => ?_),
    ⟨F.env, F.ns, F.cell, fun _ _ x => of_hideAll _ x, F.vis, fun b m => ?_, F.goff, F.hoff, F.hin, F.min, F.nd⟩, fun b m o x => hideAll_get _ x fun z => ((mem b).mp z).2.1 m, fun b z => ?_⟩
  · have := ((mem b).mp m).2.2; rw [x] at this; cases this
  · exact hideAll_none _ ((mem b).mpr ⟨in_lt (F.min b m), fun z => hk b z m, F.off b m⟩)
  · by_cases m : b ∈ ks
    · exact .inl m
    · refine .inr fun z' => z ?_
      by_cases hlt : b < h.objs.size
      · exact hideAll_none _ ((mem b).mpr ⟨hlt, m, z'⟩)
      · cases q : (hideAll h ((List.range h.objs.size).filter fun b => !ks.contains b && (B.h.get? b).isNone)).get? b with
        | none => rfl
        | some o => exact absurd (Heap.lt_size (of_hideAll _ q)) hlt
theorem Fz.notMut (F : Fz e sc B g h vals) {b : Addr} {o : Obj} (x : B.h.get? b = some o) : b ∉ mutOf e := fun m => by
  have := F.off b m; rw [x] at this; cases this
theorem Fz.notMutG (F : Fz e sc B g h vals) {b : Addr} {o : Obj} (x : g.get? b = some o) : b ∉ mutOf e := fun m => by
  have := F.goff b m; rw [x] at this; cases this
end

section
variable {M : Model} {A : Around} {E : Value → Shared → Prop} {s : Shared} {e : Env} {sc : Scope} {B : Base} {g : Heap} {vals : List (Option Value)} {x : Str} {i : Nat}
theorem ldL' {v : Value} {Q : Value → Shared → Prop} (F : Fz e sc B g s.heap vals) (hn : nmAt sc x = some (i, .local)) (hv : at' vals i = some v) (h : Q v s) : wpAny M A (loadName e x) Q E s := by
  obtain ⟨ml, n, r⟩ := F.ns
  exact wpAny_loadName_local (by rw [F.env.scope]; exact F.env.kind) ((F.env.kindOf x).trans (nmAt_lookup hn)) n ((r x i hn).trans hv) h
theorem ldL {v : Value} {pos : Pos} {Q : Value → Shared → Prop} (F : Fz e sc B g s.heap vals) (hn : nmAt sc x = some (i, .local)) (hv : at' vals i = some v) (h : Q v s)
    (hd : (x == ("__debug__" : Str)) = false) : wpAny M A (eval (.Name x pos) e) Q E s := wpAny_Name (ldL' F hn hv h) hd
theorem ldC' {v : Value} {Q : Value → Shared → Prop} (F : Fz e sc B g s.heap vals) (hn : nmAt sc x = some (i, .cell)) (hv : at' vals i = some v) (h : Q v s) : wpAny M A (loadName e x) Q E s := by
  obtain ⟨c, hc, q⟩ := F.cell x i hn
  exact wpAny_loadName_cell (by rw [F.env.scope]; exact F.env.kind) ((F.env.kindOf x).trans (nmAt_lookup hn)) hc (hv ▸ q) h
theorem ldC {v : Value} {pos : Pos} {Q : Value → Shared → Prop} (F : Fz e sc B g s.heap vals) (hn : nmAt sc x = some (i, .cell)) (hv : at' vals i = some v) (h : Q v s)
    (hd : (x == ("__debug__" : Str)) = false) : wpAny M A (eval (.Name x pos) e) Q E s := wpAny_Name (ldC' F hn hv h) hd

theorem stL {v : Value} {Q : Unit → Shared → Prop} (F : Fz e sc B g s.heap vals) (hn : nmAt sc x = some (i, .local)) (hl : i < vals.length)
    (h : ∀ h' tk, Fz e sc B g h' (setAt i (some v) vals) → (∀ b o, b ≠ e.locals → s.heap.get? b = some o → h'.get? b = some o) → h'.objs.size = s.heap.objs.size → Q () { s with heap := h', toks := tk }) : wpAny M A (storeName e x v) Q E s := by
  obtain ⟨ml, n, r⟩ := F.ns
  have hk : (e.scope.kind == .class || (e.scope.kind == .module && e.locals != e.globals)) = false := by rw [F.env.scope, F.env.kind]; rfl
  have hnd := List.nodup_cons.mp F.nd
  refine wpAny_storeName_local ((F.env.kindOf x).trans (nmAt_lookup hn)) n (fun h' hn' hs => h h' _ ⟨F.env, ⟨_, hn', fun y j hy => ?_⟩, fun y j hy => ?_, fun b o q => (hs.2 b fun z => F.notMut q (z ▸ Fz.locals_mem)).trans (F.keep b o q), fun b o q => (hs.2 b fun z => F.notMutG q (z ▸ Fz.locals_mem)).trans (F.vis b o q), F.off, F.goff, F.hoff, (fun b m => in_but hs (Ns.in hn') (F.hin b m)), (fun b m => in_but hs (Ns.in hn') (F.min b m)), F.nd⟩
    (fun b o hb q => (hs.2 b hb).trans q) hs.1) hk
  · by_cases hyx : y = x
    · subst hyx
      rw [hn] at hy; cases hy
      rw [if_pos rfl, at_setAt_eq _ _ _ hl]
    · rw [if_neg hyx, r y j hy]
      exact (at_setAt_ne (fun z => hyx (nmAt_inj hy (z ▸ hn))) _ _).symm
  · obtain ⟨c, hc, q⟩ := F.cell y j hy
    refine ⟨c, hc, ?_⟩
    have : i ≠ j := fun z => by subst z; have := nmAt_inj hn hy; subst this; rw [hn] at hy; cases hy
    rw [at_setAt_ne this]
    exact q.sameBut hs fun z => hnd.1 (z ▸ List.mem_map.mpr ⟨(y, c), mem_of_lookup hc, rfl⟩)

theorem nodup_snd_inj {cs : List (Str × Addr)} (h : (cs.map (·.2)).Nodup) {x y : Str} {c : Addr} (hx : (x, c) ∈ cs) (hy : (y, c) ∈ cs) : x = y := by
  induction cs with
  | nil => cases hx
  | cons p r ih =>
    rw [List.map_cons, List.nodup_cons] at h
    rcases List.mem_cons.mp hx with a | a <;> rcases List.mem_cons.mp hy with b | b
    · rw [← b] at a; exact (Prod.mk.inj a).1
    · exact absurd (List.mem_map.mpr ⟨_, b, by rw [← a]⟩) h.1
    · exact absurd (List.mem_map.mpr ⟨_, a, by rw [← b]⟩) h.1
    · exact ih h.2 a b

theorem stC {v : Value} {Q : Unit → Shared → Prop} (F : Fz e sc B g s.heap vals) (hn : nmAt sc x = some (i, .cell)) (hl : i < vals.length)
    (h : ∀ h' tk, Fz e sc B g h' (setAt i (some v) vals) → (∀ b o, b ∉ mutOf e → s.heap.get? b = some o → h'.get? b = some o) → h'.objs.size = s.heap.objs.size → Q () { s with heap := h', toks := tk }) : wpAny M A (storeName e x v) Q E s := by
  obtain ⟨c, hc, q⟩ := F.cell x i hn
  have hcm := cell_mem hc
  have hnd := List.nodup_cons.mp F.nd
  have hLc : e.locals ≠ c := fun z => hnd.1 (z ▸ List.mem_map.mpr ⟨(x, c), mem_of_lookup hc, rfl⟩)
  refine wpAny_storeName_cell (by rw [F.env.scope]; exact F.env.kind) ((F.env.kindOf x).trans (nmAt_lookup hn)) hc q fun h' hv hs => h h' s.toks ⟨F.env, ?_, fun y j hy => ?_, fun b o z => (hs.2 b fun w => F.notMut z (w ▸ hcm)).trans (F.keep b o z), fun b o z => (hs.2 b fun w => F.notMutG z (w ▸ hcm)).trans (F.vis b o z), F.off, F.goff, F.hoff, (fun b m => in_but hs (IsCell.in hv) (F.hin b m)), (fun b m => in_but hs (IsCell.in hv) (F.min b m)), F.nd⟩
    (fun b o hb z => (hs.2 b fun w => hb (w ▸ hcm)).trans z) hs.1
  · obtain ⟨ml, n, r⟩ := F.ns
    refine ⟨ml, n.sameBut hs hLc, fun y j hy => ?_⟩
    have : i ≠ j := fun z => by subst z; have := nmAt_inj hn hy; subst this; rw [hn] at hy; cases hy
    rw [at_setAt_ne this]; exact r y j hy
  · obtain ⟨c', hc', q'⟩ := F.cell y j hy
    refine ⟨c', hc', ?_⟩
    by_cases hyx : y = x
    · subst hyx
      rw [hc] at hc'; cases hc'
      rw [hn] at hy; cases hy
      rw [at_setAt_eq _ _ _ hl]; exact hv
    · rw [at_setAt_ne (fun z => hyx (nmAt_inj hy (z ▸ hn)))]
      exact q'.sameBut hs fun z => hyx (nodup_snd_inj hnd.2 (mem_of_lookup hc') (z ▸ mem_of_lookup hc))
end

/-! ## the text's names -/
structure Gd (mg : Str → Option Value) (h : Heap) : Prop where
  g : h.Ns mainGlobals mg
  b : ∃ mb, h.Ns builtinsNs mb ∧ ∀ x : Str, x ≠ "__name__" → mb x = bootBuiltins x
  nolimit : h.NoLimit
  nodigits : ∃ mc, h.Ns cStatics mc ∧ mc "sys.int_max_str_digits" = none
theorem Gd.up {mg : Str → Option Value} {h h' : Heap} (G : Gd mg h) (u : Up h h') : Gd mg h' :=
  ⟨G.g.keeps u, let ⟨mb, a, b⟩ := G.b; ⟨mb, a.keeps u, b⟩, G.nolimit.keeps u, let ⟨mb, a, b⟩ := G.nodigits; ⟨mb, a.keeps u, b⟩⟩

section
variable {M : Model} {A : Around} {E : Value → Shared → Prop} {s : Shared} {e : Env} {sc : Scope} {B : Base} {g : Heap} {vals : List (Option Value)} {x : Str} {i : Nat} {mg : Str → Option Value}
theorem ldG {v : Value} {pos : Pos} {Q : Value → Shared → Prop} (F : Fz e sc B g s.heap vals) (G : Gd mg g) (hn : nmAt sc x = some (i, .globalImplicit)) (hv : mg x = some v) (h : Q v s)
    (hd : (x == ("__debug__" : Str)) = false) : wpAny M A (eval (.Name x pos) e) Q E s :=
  Calls.Name_function_global (by rw [F.env.scope]; exact F.env.kind) ((F.env.kindOf x).trans (nmAt_lookup hn)) (Calls.loadGlobal_global (by rw [F.env.globals]; exact G.g.keeps F.vis) hv h) hd
theorem ldB {v : Value} {pos : Pos} {Q : Value → Shared → Prop} (F : Fz e sc B g s.heap vals) (G : Gd mg g) (hn : nmAt sc x = some (i, .globalImplicit)) (hm : mg x = none) (hv : bootBuiltins x = some v) (h : Q v s)
    (hx : x ≠ "__name__") (hd : (x == ("__debug__" : Str)) = false) : wpAny M A (eval (.Name x pos) e) Q E s := by
  obtain ⟨mb, b, hb⟩ := G.b
  exact Calls.Name_function_global (by rw [F.env.scope]; exact F.env.kind) ((F.env.kindOf x).trans (nmAt_lookup hn)) (Calls.loadGlobal_builtin (by rw [F.env.globals]; exact G.g.keeps F.vis) hm
    (by rw [F.env.builtins]; exact b.keeps F.vis) ((hb x hx).trans hv) h) hd
end
end Mine

end

section
open PySem PySem.W PyProof.Rows PySem.Calls
set_option Elab.async false
namespace Mine

/-! ## room -/
structure Room (A : Around) (n : Nat) : Prop where
  handled : A.handled = none
  depth : A.depth + n < recursionLimit
  units : A.units + 8 * n < cLine
theorem Room.le {A : Around} {n k : Nat} (R : Room A n) (h : k ≤ n) : Room A k := ⟨R.handled, by have := R.depth; omega, by have := R.units; omega⟩
theorem Room.deeper {A : Around} {n : Nat} (R : Room A (n + 1)) (e : Env) : Room (A.deeper e) n := ⟨R.handled, by show A.depth + 1 + n < _; have := R.depth; omega, by show A.units + 3 + 8 * n < _; have := R.units; omega⟩
theorem Room.in1 {A : Around} {n : Nat} (R : Room A (n + 1)) : Room A.in1 n := ⟨R.handled, by show A.depth + n < _; have := R.depth; omega, by show A.units + 1 + 8 * n < _; have := R.units; omega⟩
theorem Room.mark {A : Around} {n : Nat} (R : Room A n) : Room (A.mark none) n := by
  have : A.mark none = A := rfl
  rw [this]; exact R

/-- a call that gives a value and leaves all that stood -/
structure Gives (w : World) (n : Nat) (f : Value) (args : List Value) (P : Heap → Prop) (V : Heap → Value → Prop) : Prop where
  run : ∀ (A : Around) (s : Shared) (R : Result → Shared → Prop) (hs : List Addr) (g : Heap), Room A n → Up g s.heap → (∀ b ∈ hs, g.get? b = none) → (∀ b ∈ hs, s.heap.get? b ≠ none) → P g →
    (∀ v g' h' tk, Up s.heap h' → Up g g' → Up g' h' → (∀ b ∈ hs, g'.get? b = none) → V g' v → R (.ok (.ret v)) { s with heap := h', toks := tk }) → codeAny (model pw w) A (.call f ⟨args, []⟩) R s

section
variable {w : World} {A : Around} {E : Value → Shared → Prop} {s : Shared} {e : Env} {sc : Scope} {B : Base} {g : Heap} {vals : List (Option Value)}
theorem Gives.use {n : Nat} {f : Value} {args : List Value} {P : Heap → Prop} {V : Heap → Value → Prop} {Q : Value → Shared → Prop} (C : Gives w n f args P V) (R : Room A n) (F : Fz e sc B g s.heap vals) (hP : P g)
    (h : ∀ v g' h' tk, Up s.heap h' → Up g g' → Fz e sc B g' h' vals → V g' v → Q v { s with heap := h', toks := tk }) : wpAny (model pw w) A (call f args []) Q E s :=
  wpAny_call (C.run A s _ (mutOf e ++ B.hid) g R F.vis (fun b m => (List.mem_append.mp m).elim (F.goff b) (F.hoff b)) (fun b m => (List.mem_append.mp m).elim (F.min b) (F.hin b)) hP
    fun v g' h' tk u ug v' k x => h v g' h' tk u ug (F.see_up u v' k) x)

/-- a def as its text has it -/
structure FnAt (h : Heap) (a : Addr) (st : Stmt) (qual : Str) : Prop where
  at_ : ∃ o fd, h.get? a = some o ∧ o.data = .func fd ∧ fd.params = argsOf st ∧ fd.body = .stmts (bodyOf st) ∧ fd.scope = scopeOf st ∧ fd.globals = mainGlobals ∧ fd.closure = [] ∧ fd.defaults = .none ∧
    fd.kwdefaults = .none ∧ fd.builtins = builtinsNs ∧ fd.qualname = qual ∧ h.CodeRec fd.code qual
theorem FnAt.up {h h' : Heap} {a : Addr} {st : Stmt} {qual : Str} (F : FnAt h a st qual) (u : Up h h') : FnAt h' a st qual :=
  ⟨let ⟨o, fd, h1, h2, h3, h4, h5, h6, h7, h8, h9, h10, h11, h12⟩ := F.at_; ⟨o, fd, u _ _ h1, h2, h3, h4, h5, h6, h7, h8, h9, h10, h11, h12.keeps u⟩⟩


/-- what a frame holds at its start -/
def iniVals (sc : Scope) (l : List (Str × Value)) : List (Option Value) := sc.names.map fun n => l.reverse.lookup n.1

theorem nmGo_at {x : Str} {f : Str × NameKind → Option Value} : ∀ (l : List (Str × NameKind)) (n i : Nat) (k : NameKind), nmGo x n l = some (i, k) → (∀ q, f (x, q) = f (x, .local)) → at' (l.map f) (i - n) = f (x, .local)
  | [], _, _, _, h, _ => by cases h
  | (y, q) :: r, n, i, k, h, hf => by
    have hge := nmGo_ge x _ _ _ _ h
    unfold nmGo at h
    cases hx : (x == y) with
    | true =>
      rw [hx] at h; cases h
      rw [Nat.sub_self]
      show f (y, _) = _
      rw [← beq_iff_eq.mp hx]; exact hf _
    | false =>
      rw [hx] at h
      have := nmGo_ge x r _ _ _ h
      have e : i - n = (i - (n + 1)) + 1 := by omega
      rw [e]
      exact nmGo_at r (n + 1) i k h hf
theorem ini_at {sc : Scope} {l : List (Str × Value)} {x : Str} {i : Nat} {k : NameKind} (h : nmAt sc x = some (i, k)) : at' (iniVals sc l) i = l.reverse.lookup x := by
  have := nmGo_at (f := fun n => l.reverse.lookup n.1) sc.names 0 i k h (fun _ => rfl)
  rwa [Nat.sub_zero] at this

theorem bindL_is {kindOf : Str → Option NameKind} {x : Str} (hx : kindOf x = some .local) : ∀ (l : List (Str × Value)) (m : Str → Option Value), bindL kindOf l m x = (l.reverse.lookup x).or (m x)
  | [], m => by simp [bindL]
  | (n, v) :: r, m => by
    unfold bindL
    rw [bindL_is hx r]
    simp only [List.reverse_cons, List.lookup_append, Option.or_assoc, List.lookup_cons, List.lookup_nil]
    congr 1
    by_cases e : x = n
    · subst e; simp [hx]
    · have : (x == n) = false := by simpa using e
      rw [this]
      split <;> simp [e]
theorem bindC_is {kindOf : Str → Option NameKind} {x : Str} (hx : kindOf x ≠ some .local) : ∀ (l : List (Str × Value)) (m : Str → Option Value), bindC kindOf l m x = (l.reverse.lookup x).or (m x)
  | [], m => by simp [bindC]
  | (n, v) :: r, m => by
    unfold bindC
    rw [bindC_is hx r]
    simp only [List.reverse_cons, List.lookup_append, Option.or_assoc, List.lookup_cons, List.lookup_nil]
    congr 1
    by_cases e : x = n
    · subst e; simp [hx]
    · have : (x == n) = false := by simpa using e
      rw [this]
      split <;> simp [e]

def retOf : Flow → Value
  | .ret v => v
  | _ => .none

theorem lookup_of_mem_nodup {cs : List (Str × Addr)} (h : (cs.map (·.1)).Nodup) {x : Str} {c : Addr} (m : (x, c) ∈ cs) : cs.lookup x = some c := by
  induction cs with
  | nil => cases m
  | cons p r ih =>
    rw [List.map_cons, List.nodup_cons] at h
    rw [List.lookup_cons]
    rcases List.mem_cons.mp m with e | m
    · subst e; simp
    · have : (x == p.1) = false := by
        cases z : (x == p.1) with
        | false => rfl
        | true => exact absurd (List.mem_map.mpr ⟨_, m, beq_iff_eq.mp z⟩) h.1
      rw [this]; exact ih h.2 m
theorem cellsFrom_nodup : ∀ (names : List (Str × NameKind)) (n : Nat) (acc : List (Str × Addr)), (names.map (·.1)).Nodup → (acc.map (·.1)).Nodup → (∀ x ∈ names.map (·.1), x ∉ acc.map (·.1)) → ((cellsFrom n names acc).map (·.1)).Nodup
  | [], _, _, _, h, _ => h
  | (x, k) :: r, n, acc, hn, ha, hd => by
    unfold cellsFrom
    rw [List.map_cons, List.nodup_cons] at hn
    split
    · refine cellsFrom_nodup r _ _ hn.2 (List.nodup_cons.mpr ⟨hd x (by simp), ha⟩) fun y hy => ?_
      rw [List.map_cons, List.mem_cons]
      rintro (z | z)
      · exact hn.1 (z ▸ hy)
      · exact hd y (List.mem_cons_of_mem _ hy) z
    · exact cellsFrom_nodup r _ _ hn.2 ha fun y hy => hd y (List.mem_cons_of_mem _ hy)

theorem cells_nodup {L : Addr} {cs : List (Str × Addr)} (ap : cs.Pairwise fun x y => x.2 ≠ y.2) (ab : ∀ n c, (n, c) ∈ cs → L < c) : (L :: cs.map (·.2)).Nodup := by
  refine List.nodup_cons.mpr ⟨fun m => ?_, ?_⟩
  · obtain ⟨⟨n, c⟩, hp, e⟩ := List.mem_map.mp m
    exact Nat.ne_of_gt (ab n c hp) e
  · clear ab
    induction cs with
    | nil => exact List.nodup_nil
    | cons p r ih =>
      obtain ⟨h1, h2⟩ := List.pairwise_cons.mp ap
      refine List.nodup_cons.mpr ⟨fun m => ?_, ih h2⟩
      obtain ⟨q, hq, e⟩ := List.mem_map.mp m
      exact h1 q hq e.symm

theorem at_nones (m : Nat) : ∀ (l : List (Option Value)) (i : Nat), at' (l ++ List.replicate m none) i = at' l i
  | [], i => by
    show at' (List.replicate m none) i = none
    induction m generalizing i with
    | zero => rfl
    | succ m ih => cases i with
      | zero => rfl
      | succ i => exact ih i
  | a :: r, 0 => rfl
  | a :: r, i + 1 => at_nones m r i

/-- a def is entered: its own raising end stands to the caller -/
theorem enterE {R : Result → Shared → Prop} {a : Addr} {st : Stmt} {qual : Str} {n : Nat} {args : List Value} {l : List (Str × Value)} {B : Base} (hB : Up B.h s.heap) (hg : Up g s.heap) (hh : ∀ b ∈ B.hid, g.get? b = none) (hhi : ∀ b ∈ B.hid, s.heap.get? b ≠ none)
    (hf : FnAt s.heap a st qual) (RA : Room A (n + 1)) (hlim : s.heap.NoLimit)
    (hb : ∀ fd : FuncData, fd.params = argsOf st → fd.defaults = .none → bindArgs fd ⟨args, []⟩ = pure l)
    (hk : ∀ x ∈ l, (scopeOf st).names.lookup x.1 = some .local ∨ (scopeOf st).names.lookup x.1 = some .cell) (hnn : ((scopeOf st).names.map (·.1)).Nodup)
    (hfun : (scopeOf st).kind = .function ∧ (scopeOf st).isCoroutine = false ∧ (scopeOf st).isGenerator = false) (m : Nat) (hini : iniVals (scopeOf st) l = vals ++ List.replicate m none)
    (body : ∀ e h₁ tk, Up s.heap h₁ → (∀ b ∈ mutOf e, s.heap.get? b = none) → Room (A.deeper e) n → (∀ l, A.frames = some l → (A.deeper e).frames = some (e :: l)) → e.frame = some e.locals → Fz e (scopeOf st) B g h₁ vals →
      wpAny (model pw w) (A.deeper e) (execs (bodyOf st) e) (fun f s' => R (.ok (.ret (retOf f))) s')
        (fun x s' => wpAny (model pw w) (A.deeper e) (leaving e x) (fun _ s'' => R (.error x) s'') (fun y s'' => R (.error y) s'') s') { s with heap := h₁, toks := tk }) :
    codeAny (model pw w) A (.call (.ref a) ⟨args, []⟩) R s := by
  obtain ⟨o, fd, h1, h2, h3, h4, h5, h6, h7, h8, h9, h10, h11, h12⟩ := hf.at_
  have hd := RA.depth
  refine codeAny_call_cells (fd := fd) (by omega) h1 h2 hlim (h11 ▸ h12) h4 (hb fd h3 h8) h7 (fun x hx => ?_) (fun s₁ X => ?_) (by rw [h5]; exact hfun.2.1) (by rw [h5]; exact hfun.2.2) (by rw [h5]; exact hfun.1)
  · rw [h5]
    rcases hk x hx with q | q
    · exact .inl q
    · exact .inr ⟨q, cellsFrom_some _ _ _ (.inl q)⟩
  · obtain ⟨h₁, tk, rfl, _⟩ := X.done
    have hcells : (callEnvC fd s.heap.objs.size a).cells = cellsFrom (s.heap.objs.size + 1) (scopeOf st).names [] := by show cellsFrom _ fd.scope.names [] = _; rw [h5]
    have hsc : (callEnvC fd s.heap.objs.size a).scope = scopeOf st := h5
    have hkd : ∀ x, (callEnvC fd s.heap.objs.size a).kindOf x = (scopeOf st).names.lookup x := fun x => by show (callEnvC fd s.heap.objs.size a).scope.names.lookup x = _; rw [hsc]
    have fresh := X.toInCall.fresh
    have hmut : ∀ b ∈ mutOf (callEnvC fd s.heap.objs.size a), s.heap.objs.size ≤ b := fun b hm => by
      rcases List.mem_cons.mp hm with rfl | hm
      · exact fresh
      · obtain ⟨⟨n, c⟩, hp, rfl⟩ := List.mem_map.mp hm
        exact Nat.le_of_lt (Nat.lt_of_le_of_lt fresh (X.above n c hp))
    have off : ∀ H : Heap, Up H s.heap → ∀ b ∈ mutOf (callEnvC fd s.heap.objs.size a), H.get? b = none := fun H u b hm => by
      cases z : H.get? b with
      | none => rfl
      | some o' => exact absurd (Heap.lt_size (u _ _ z)) (Nat.not_lt.mpr (hmut b hm))
    refine wpAny_mono (body (callEnvC fd s.heap.objs.size a) h₁ tk X.toInCall.keep (off _ fun _ _ z => z) (RA.deeper _) (fun l e => by show A.frames.map _ = _; rw [e]; rfl) rfl ⟨⟨hsc, hfun.1, h6, h10⟩, ⟨_, X.toInCall.ns, fun x i hx => ?_⟩, fun x i hx => ?_, hB.tr X.toInCall.keep,
      hg.tr X.toInCall.keep, off _ hB, off _ hg, hh, fun b m => Up.in X.toInCall.keep (hhi b m), fun b m => ?_, cells_nodup X.apart X.above⟩)
      (fun f s' q => by cases f <;> exact q) fun _ _ q => q
    · rw [bindL_is ((hkd x).trans (nmAt_lookup hx)), Option.or_none, ← at_nones m, ← hini, ini_at hx]
    · have hl := nmAt_lookup hx
      have hs := cellsFrom_some (x := x) (scopeOf st).names (s.heap.objs.size + 1) [] (.inl hl)
      obtain ⟨c, hc⟩ := Option.isSome_iff_exists.mp hs
      have hc' : (callEnvC fd s.heap.objs.size a).cells.lookup x = some c := by rw [hcells]; exact hc
      refine ⟨c, hc', ?_⟩
      have := X.cell x c hc'
      rw [bindC_is (by rw [hkd x, hl]; intro z; cases z), Option.or_none] at this
      rw [← at_nones m, ← hini, ini_at hx]; exact this
    · rcases List.mem_cons.mp m with rfl | m
      · exact Ns.in X.toInCall.ns
      · obtain ⟨⟨x, c⟩, hp, rfl⟩ := List.mem_map.mp m
        refine IsCell.in (X.cell x c (lookup_of_mem_nodup ?_ hp))
        rw [hcells]
        exact cellsFrom_nodup _ _ _ hnn List.nodup_nil fun _ _ z => by cases z
end
end Mine

end

section
open PySem PySem.W PyProof.Rows PySem.Calls
set_option Elab.async false
set_option linter.unusedVariables false
namespace Mine

/-! ## an expression's value, a test's bool: the frame stays as it is -/
structure EvF (w : World) (A : Around) (e : Env) (sc : Scope) (B : Base) (vals : List (Option Value)) (g₀ : Heap) (t : Expr) (V : Heap → Value → Prop) : Prop where
  run : ∀ (s : Shared) (g : Heap) (Q E : Value → Shared → Prop), Up g₀ g → Fz e sc B g s.heap vals →
    (∀ v g' h' tk, Up s.heap h' → Up g g' → Fz e sc B g' h' vals → V g' v → Q v { s with heap := h', toks := tk }) → wpAny (model pw w) A (eval t e) Q E s
structure TsF (w : World) (A : Around) (e : Env) (sc : Scope) (B : Base) (vals : List (Option Value)) (g₀ : Heap) (t : Expr) (b : Bool) : Prop where
  run : ∀ (s : Shared) (g : Heap) (Q : Bool → Shared → Prop) (E : Value → Shared → Prop), Up g₀ g → Fz e sc B g s.heap vals →
    (∀ g' h' tk, Up s.heap h' → Up g g' → Fz e sc B g' h' vals → Q b { s with heap := h', toks := tk }) → wpAny (model pw w) A (isTrue t e (eval t e)) Q E s
def Mono (V : Heap → Value → Prop) : Prop := ∀ g g' v, Up g g' → V g v → V g' v

section
variable {w : World} {A : Around} {E : Value → Shared → Prop} {s : Shared} {e : Env} {sc : Scope} {B : Base} {g g₀ : Heap} {vals : List (Option Value)}

theorem EvF.go {t : Expr} {V : Heap → Value → Prop} {Q : Value → Shared → Prop} (x : EvF w A e sc B vals g t V) (F : Fz e sc B g s.heap vals)
    (h : ∀ v g' h' tk, Up s.heap h' → Up g g' → Fz e sc B g' h' vals → V g' v → Q v { s with heap := h', toks := tk }) : wpAny (model pw w) A (eval t e) Q E s := x.run s g Q E Up.rfl' F h
theorem TsF.go {t : Expr} {b : Bool} {Q : Bool → Shared → Prop} (x : TsF w A e sc B vals g t b) (F : Fz e sc B g s.heap vals)
    (h : ∀ g' h' tk, Up s.heap h' → Up g g' → Fz e sc B g' h' vals → Q b { s with heap := h', toks := tk }) : wpAny (model pw w) A (isTrue t e (eval t e)) Q E s := x.run s g Q E Up.rfl' F h
theorem EvF.up {g₁ : Heap} {t : Expr} {V : Heap → Value → Prop} (x : EvF w A e sc B vals g₀ t V) (u : Up g₀ g₁) : EvF w A e sc B vals g₁ t V := .mk fun s g Q E u' F h => x.run s g Q E (u.tr u') F h
theorem TsF.up {g₁ : Heap} {t : Expr} {b : Bool} (x : TsF w A e sc B vals g₀ t b) (u : Up g₀ g₁) : TsF w A e sc B vals g₁ t b := .mk fun s g Q E u' F h => x.run s g Q E (u.tr u') F h

theorem TsF.not {t : Expr} {pos : Pos} {b : Bool} (x : TsF w A e sc B vals g₀ t b) : TsF w A e sc B vals g₀ (.UnaryOp .Not t pos) (!b) := .mk fun s g Q E u F h =>
  isTrue_not (x.run s g _ E u F h)
theorem TsF.and_nil {pos : Pos} : TsF w A e sc B vals g₀ (.BoolOp .And [] pos) true := .mk fun s g Q E _ F h => isTrue_and_nil (h g s.heap s.toks Up.rfl' Up.rfl' F)
theorem TsF.or_nil {pos : Pos} : TsF w A e sc B vals g₀ (.BoolOp .Or [] pos) false := .mk fun s g Q E _ F h => isTrue_or_nil (h g s.heap s.toks Up.rfl' Up.rfl' F)

theorem TsF.and {x : Expr} {rest : List Expr} {pos : Pos} {b c : Bool} (h1 : TsF w A e sc B vals g₀ x b) (h2 : b = true → TsF w A e sc B vals g₀ (.BoolOp .And rest pos) c) :
    TsF w A e sc B vals g₀ (.BoolOp .And (x :: rest) pos) (b && c) := .mk fun s g Q E u F h => by
  refine isTrue_and (h1.run s g _ E u F fun g' h' tk u' ug' F' => ?_)
  cases b with
  | false => exact h g' h' tk u' ug' F'
  | true => exact (h2 rfl).run { s with heap := h', toks := tk } g' Q E (u.tr ug') F' fun g'' h'' tk' u'' ug'' F'' => h g'' h'' tk' (u'.tr u'') (ug'.tr ug'') F''
theorem TsF.or {x : Expr} {rest : List Expr} {pos : Pos} {b c : Bool} (h1 : TsF w A e sc B vals g₀ x b) (h2 : b = false → TsF w A e sc B vals g₀ (.BoolOp .Or rest pos) c) :
    TsF w A e sc B vals g₀ (.BoolOp .Or (x :: rest) pos) (b || c) := .mk fun s g Q E u F h => by
  refine isTrue_or (h1.run s g _ E u F fun g' h' tk u' ug' F' => ?_)
  cases b with
  | true => exact h g' h' tk u' ug' F'
  | false => exact (h2 rfl).run { s with heap := h', toks := tk } g' Q E (u.tr ug') F' fun g'' h'' tk' u'' ug'' F'' => h g'' h'' tk' (u'.tr u'') (ug'.tr ug'') F''
theorem TsF.and1 {x : Expr} {pos : Pos} {b : Bool} (h1 : TsF w A e sc B vals g₀ x b) : TsF w A e sc B vals g₀ (.BoolOp .And [x] pos) b := by
  have := TsF.and (pos := pos) h1 (fun _ => TsF.and_nil (pos := pos)); rwa [Bool.and_true] at this
theorem TsF.or1 {x : Expr} {pos : Pos} {b : Bool} (h1 : TsF w A e sc B vals g₀ x b) : TsF w A e sc B vals g₀ (.BoolOp .Or [x] pos) b := by
  have := TsF.or (pos := pos) h1 (fun _ => TsF.or_nil (pos := pos)); rwa [Bool.or_false] at this

/-- how two values compare: no heap is asked -/
def Cmp (w : World) (A : Around) (op : CmpOp) (a b : Value) (r : Bool) : Prop := ∀ (s : Shared) (Q E : Value → Shared → Prop), (∀ tk, Q (.bool r) { s with toks := tk }) → wpAny (model pw w) A (compareOp op a b) Q E s

theorem TsF.cmp {l r : Expr} {op : CmpOp} {pos : Pos} {V U : Heap → Value → Prop} {b : Bool} (hl : EvF w A e sc B vals g₀ l V) (hV : Mono V) (hr : EvF w A e sc B vals g₀ r U)
    (hc : ∀ g v u, Up g₀ g → V g v → U g u → ∀ (s : Shared) (Q E : Value → Shared → Prop), Fz e sc B g s.heap vals → (∀ tk, Q (.bool b) { s with toks := tk }) → wpAny (model pw w) A (compareOp op v u) Q E s)
    (hm : behindInMarks op r = false := by with_unfolding_all rfl) : TsF w A e sc B vals g₀ (.Compare l [op] [r] pos) b := .mk fun s g Q E u F h => by
  refine wpAny_isTrue_Compare1 (hl.run s g _ E u F fun v g₁ h₁ tk₁ u₁ ug₁ F₁ hv => hr.run { s with heap := h₁, toks := tk₁ } g₁ _ E (u.tr ug₁) F₁ fun x g₂ h₂ tk₂ u₂ ug₂ F₂ hx => ?_) hm
  exact hc g₂ v x ((u.tr ug₁).tr ug₂) (hV _ _ _ ug₂ hv) hx _ _ _ F₂ fun tk => wpAny_truthy_bool (h g₂ h₂ tk (u₁.tr u₂) (ug₁.tr ug₂) F₂)
theorem EvF.cmp {l r : Expr} {op : CmpOp} {pos : Pos} {V U : Heap → Value → Prop} {b : Bool} (hl : EvF w A e sc B vals g₀ l V) (hV : Mono V) (hr : EvF w A e sc B vals g₀ r U)
    (hc : ∀ g v u, Up g₀ g → V g v → U g u → ∀ (s : Shared) (Q E : Value → Shared → Prop), Fz e sc B g s.heap vals → (∀ tk, Q (.bool b) { s with toks := tk }) → wpAny (model pw w) A (compareOp op v u) Q E s)
    (hm : behindInMarks op r = false := by with_unfolding_all rfl) : EvF w A e sc B vals g₀ (.Compare l [op] [r] pos) (fun _ v => v = .bool b) := .mk fun s g Q E u F h => by
  refine wpAny_Compare1 (hl.run s g _ E u F fun v g₁ h₁ tk₁ u₁ ug₁ F₁ hv => hr.run { s with heap := h₁, toks := tk₁ } g₁ _ E (u.tr ug₁) F₁ fun x g₂ h₂ tk₂ u₂ ug₂ F₂ hx => ?_) hm
  exact hc g₂ v x ((u.tr ug₁).tr ug₂) (hV _ _ _ ug₂ hv) hx _ _ _ F₂ fun tk => h _ g₂ h₂ tk (u₁.tr u₂) (ug₁.tr ug₂) F₂ rfl
/-- a bool's truth -/
theorem TsF.val {t : Expr} {b : Bool} (h : EvF w A e sc B vals g₀ t (fun _ v => v = .bool b)) (he : isTrue t e (eval t e) = (do let v ← eval t e; standAt t.pos; holding [v] (truthy v)) := by rfl) : TsF w A e sc B vals g₀ t b := .mk
  fun s g Q E u F k => isTrue_plain (h.run s g _ E u F fun v g' h' tk u' ug' F' hv => by subst hv; exact wpAny_truthy_bool (k g' h' tk u' ug' F')) he

/-- an int, a str that an expression gives -/
abbrev VI (i : Int) : Heap → Value → Prop := fun _ v => ∃ t, v = .int i t
abbrev VS (x : Str) : Heap → Value → Prop := fun _ v => ∃ t, v = .str x t
abbrev VB (b : Bool) : Heap → Value → Prop := fun _ v => v = .bool b
theorem Mono.vi {i : Int} : Mono (VI i) := fun _ _ _ _ x => x
theorem Mono.vs {x : Str} : Mono (VS x) := fun _ _ _ _ x => x
theorem Mono.vb {b : Bool} : Mono (VB b) := fun _ _ _ _ x => x
theorem Mono.eq {v : Value} : Mono (fun _ u => u = v) := fun _ _ _ _ x => x

theorem EvF.int {i : Int} {k : Nat} {pos : Pos} : EvF w A e sc B vals g₀ (.Constant (.int i) k pos) (VI i) := .mk fun _ g _ _ _ F h => wpAny_Constant_int (h _ g _ _ Up.rfl' Up.rfl' F ⟨_, rfl⟩)
theorem EvF.str {x : Str} {k : Nat} {pos : Pos} : EvF w A e sc B vals g₀ (.Constant (.str x) k pos) (VS x) := .mk fun _ g _ _ _ F h => wpAny_Constant_str (h _ g _ _ Up.rfl' Up.rfl' F ⟨_, rfl⟩)
theorem EvF.bool {b : Bool} {k : Nat} {pos : Pos} : EvF w A e sc B vals g₀ (.Constant (.bool b) k pos) (VB b) := .mk fun s g _ _ _ F h => wpAny_Constant_bool (h _ g s.heap s.toks Up.rfl' Up.rfl' F rfl)
theorem EvF.noneC {k : Nat} {pos : Pos} : EvF w A e sc B vals g₀ (.Constant .none k pos) (fun _ v => v = .none) := .mk fun s g _ _ _ F h => wpAny_Constant_none (h _ g s.heap s.toks Up.rfl' Up.rfl' F rfl)
theorem EvF.local {x : Str} {i : Nat} {v : Value} {pos : Pos} (hn : nmAt sc x = some (i, .local)) (hv : at' vals i = some v) (hd : (x == ("__debug__" : Str)) = false := by decide +kernel) : EvF w A e sc B vals g₀ (.Name x pos) (fun _ u => u = v) := .mk
  fun s g _ _ _ F h => ldL F hn hv (h _ g s.heap s.toks Up.rfl' Up.rfl' F rfl) hd
theorem EvF.localI {x : Str} {i : Nat} {n : Int} {t : Tok} {pos : Pos} (hn : nmAt sc x = some (i, .local)) (hv : at' vals i = some (.int n t)) (hd : (x == ("__debug__" : Str)) = false := by decide +kernel) : EvF w A e sc B vals g₀ (.Name x pos) (VI n) := .mk
  fun s g _ _ _ F h => ldL F hn hv (h _ g s.heap s.toks Up.rfl' Up.rfl' F ⟨_, rfl⟩) hd
theorem EvF.localS {x : Str} {i : Nat} {y : Str} {t : Tok} {pos : Pos} (hn : nmAt sc x = some (i, .local)) (hv : at' vals i = some (.str y t)) (hd : (x == ("__debug__" : Str)) = false := by decide +kernel) : EvF w A e sc B vals g₀ (.Name x pos) (VS y) := .mk
  fun s g _ _ _ F h => ldL F hn hv (h _ g s.heap s.toks Up.rfl' Up.rfl' F ⟨_, rfl⟩) hd
theorem EvF.cell {x : Str} {i : Nat} {v : Value} {pos : Pos} (hn : nmAt sc x = some (i, .cell)) (hv : at' vals i = some v) (hd : (x == ("__debug__" : Str)) = false := by decide +kernel) : EvF w A e sc B vals g₀ (.Name x pos) (fun _ u => u = v) := .mk
  fun s g _ _ _ F h => ldC F hn hv (h _ g s.heap s.toks Up.rfl' Up.rfl' F rfl) hd
theorem EvF.weak {t : Expr} {V V' : Heap → Value → Prop} (x : EvF w A e sc B vals g₀ t V) (h : ∀ g v, Up g₀ g → V g v → V' g v) : EvF w A e sc B vals g₀ t V' := .mk fun s g Q E u F k => x.run s g Q E u F fun v g' h' tk u' ug' F' hv => k v g' h' tk u' ug' F' (h _ _ (u.tr ug') hv)

/-! ### ints -/
theorem TsF.ltI {l r : Expr} {pos : Pos} {a b : Int} (hl : EvF w A e sc B vals g₀ l (VI a)) (hr : EvF w A e sc B vals g₀ r (VI b)) (hm : behindInMarks .Lt r = false := by with_unfolding_all rfl) : TsF w A e sc B vals g₀ (.Compare l [.Lt] [r] pos) (decide (a < b)) :=
  TsF.cmp hl (fun _ _ _ _ x => x) hr (fun _ _ _ _ ⟨_, hv⟩ ⟨_, hu⟩ s _ _ _ h => by subst hv hu; exact lt_int (h s.toks)) hm
theorem TsF.gtI {l r : Expr} {pos : Pos} {a b : Int} (hl : EvF w A e sc B vals g₀ l (VI a)) (hr : EvF w A e sc B vals g₀ r (VI b)) (hm : behindInMarks .Gt r = false := by with_unfolding_all rfl) : TsF w A e sc B vals g₀ (.Compare l [.Gt] [r] pos) (decide (b < a)) :=
  TsF.cmp hl (fun _ _ _ _ x => x) hr (fun _ _ _ _ ⟨_, hv⟩ ⟨_, hu⟩ s _ _ _ h => by subst hv hu; exact P.gt_int (h s.toks)) hm
theorem TsF.geI {l r : Expr} {pos : Pos} {a b : Int} (hl : EvF w A e sc B vals g₀ l (VI a)) (hr : EvF w A e sc B vals g₀ r (VI b)) (hm : behindInMarks .GtE r = false := by with_unfolding_all rfl) : TsF w A e sc B vals g₀ (.Compare l [.GtE] [r] pos) (decide (b ≤ a)) :=
  TsF.cmp hl (fun _ _ _ _ x => x) hr (fun _ _ _ _ ⟨_, hv⟩ ⟨_, hu⟩ s _ _ _ h => by subst hv hu; exact P.ge_int (h s.toks)) hm
theorem TsF.eqI {l r : Expr} {pos : Pos} {a b : Int} (hl : EvF w A e sc B vals g₀ l (VI a)) (hr : EvF w A e sc B vals g₀ r (VI b)) (hm : behindInMarks .Eq r = false := by with_unfolding_all rfl) : TsF w A e sc B vals g₀ (.Compare l [.Eq] [r] pos) (a == b) :=
  TsF.cmp hl (fun _ _ _ _ x => x) hr (fun _ _ _ _ ⟨_, hv⟩ ⟨_, hu⟩ s _ _ _ h => by subst hv hu; exact eq_int (h s.toks)) hm

theorem EvF.bin {l r : Expr} {op : Operator} {pos : Pos} {V U W : Heap → Value → Prop} (hl : EvF w A e sc B vals g₀ l V) (hV : Mono V) (hr : EvF w A e sc B vals g₀ r U)
    (hc : ∀ g v u, Up g₀ g → V g v → U g u → ∀ (s : Shared) (Q E : Value → Shared → Prop), Fz e sc B g s.heap vals →
      (∀ x g' h' tk, Up s.heap h' → Up g g' → Fz e sc B g' h' vals → W g' x → Q x { s with heap := h', toks := tk }) → wpAny (model pw w) A (binaryOp op v u) Q E s) :
    EvF w A e sc B vals g₀ (.BinOp l op r pos) W := .mk fun s g Q E u F h =>
  wpAny_BinOp (hl.run s g _ E u F fun v g₁ h₁ tk₁ u₁ ug₁ F₁ hv => hr.run { s with heap := h₁, toks := tk₁ } g₁ _ E (u.tr ug₁) F₁ fun x g₂ h₂ tk₂ u₂ ug₂ F₂ hx =>
    hc g₂ v x ((u.tr ug₁).tr ug₂) (hV _ _ _ ug₂ hv) hx { s with heap := h₂, toks := tk₂ } _ _ F₂ fun y g₃ h₃ tk u₃ ug₃ F₃ hy => h y g₃ h₃ tk ((u₁.tr u₂).tr u₃) ((ug₁.tr ug₂).tr ug₃) F₃ hy)
/-- an operation that asks no heap and makes no object -/
theorem EvF.bin0 {l r : Expr} {op : Operator} {pos : Pos} {V U W : Heap → Value → Prop} (hl : EvF w A e sc B vals g₀ l V) (hV : Mono V) (hr : EvF w A e sc B vals g₀ r U)
    (hc : ∀ g v u, V g v → U g u → ∀ (s : Shared) (Q E : Value → Shared → Prop), (∀ x tk, W g x → Q x { s with toks := tk }) → wpAny (model pw w) A (binaryOp op v u) Q E s) :
    EvF w A e sc B vals g₀ (.BinOp l op r pos) W :=
  EvF.bin hl hV hr fun g v u _ hv hu s Q E F h => hc g v u hv hu s Q E fun x tk hx => h x g s.heap tk Up.rfl' Up.rfl' F hx
theorem EvF.addI {l r : Expr} {pos : Pos} {a b : Int} (hl : EvF w A e sc B vals g₀ l (VI a)) (hr : EvF w A e sc B vals g₀ r (VI b)) : EvF w A e sc B vals g₀ (.BinOp l .Add r pos) (VI (a + b)) :=
  EvF.bin0 hl (fun _ _ _ _ x => x) hr fun _ _ _ ⟨_, hv⟩ ⟨_, hu⟩ _ _ _ h => by subst hv hu; exact add_int (h _ _ ⟨_, rfl⟩)
theorem EvF.subI {l r : Expr} {pos : Pos} {a b : Int} (hl : EvF w A e sc B vals g₀ l (VI a)) (hr : EvF w A e sc B vals g₀ r (VI b)) : EvF w A e sc B vals g₀ (.BinOp l .Sub r pos) (VI (a - b)) :=
  EvF.bin0 hl (fun _ _ _ _ x => x) hr fun _ _ _ ⟨_, hv⟩ ⟨_, hu⟩ _ _ _ h => by subst hv hu; exact sub_int (h _ _ ⟨_, rfl⟩)
theorem EvF.mulI {l r : Expr} {pos : Pos} {a b : Int} (hl : EvF w A e sc B vals g₀ l (VI a)) (hr : EvF w A e sc B vals g₀ r (VI b)) (hok : IntMulOk a b) : EvF w A e sc B vals g₀ (.BinOp l .Mult r pos) (VI (a * b)) :=
  EvF.bin0 hl (fun _ _ _ _ x => x) hr fun _ _ _ ⟨_, hv⟩ ⟨_, hu⟩ _ _ _ h => by subst hv hu; exact mul_int (h _ _ ⟨_, rfl⟩) hok
theorem EvF.modI {l r : Expr} {pos : Pos} {a b : Int} (hl : EvF w A e sc B vals g₀ l (VI a)) (hr : EvF w A e sc B vals g₀ r (VI b)) (hb : 0 < b) : EvF w A e sc B vals g₀ (.BinOp l .Mod r pos) (VI (a % b)) :=
  EvF.bin0 hl (fun _ _ _ _ x => x) hr fun _ _ _ ⟨_, hv⟩ ⟨_, hu⟩ _ _ _ h => by subst hv hu; exact mod_int (by omega) (by rw [Int.fmod_eq_emod_of_nonneg _ (Int.le_of_lt hb)]; exact h _ _ ⟨_, rfl⟩)
theorem EvF.divI {l r : Expr} {pos : Pos} {a b : Int} (hl : EvF w A e sc B vals g₀ l (VI a)) (hr : EvF w A e sc B vals g₀ r (VI b)) (hb : 0 < b) (hb2 : b < 1073741824) : EvF w A e sc B vals g₀ (.BinOp l .FloorDiv r pos) (VI (a / b)) :=
  EvF.bin0 hl (fun _ _ _ _ x => x) hr fun _ _ _ ⟨_, hv⟩ ⟨_, hu⟩ _ _ _ h => by subst hv hu; exact floordiv_int (hp := .inl (PyProof.noPylong_small (by omega))) (by omega) (by rw [Int.fdiv_eq_ediv_of_nonneg _ (Int.le_of_lt hb)]; exact h _ _ ⟨_, rfl⟩)

/-! ### texts -/
theorem EvF.addS {l r : Expr} {pos : Pos} {a b : Str} (hl : EvF w A e sc B vals g₀ l (VS a)) (hr : EvF w A e sc B vals g₀ r (VS b)) (hsz : a.length + b.length ≤ sizeLine) : EvF w A e sc B vals g₀ (.BinOp l .Add r pos) (VS (a ++ b)) :=
  EvF.bin0 hl (fun _ _ _ _ x => x) hr fun _ _ _ ⟨_, hv⟩ ⟨_, hu⟩ _ _ _ h => by subst hv hu; exact add_str (fun t' tk => h _ _ ⟨_, rfl⟩) hsz
theorem TsF.eqS {l r : Expr} {pos : Pos} {a b : Str} (hl : EvF w A e sc B vals g₀ l (VS a)) (hr : EvF w A e sc B vals g₀ r (VS b)) (hm : behindInMarks .Eq r = false := by with_unfolding_all rfl) : TsF w A e sc B vals g₀ (.Compare l [.Eq] [r] pos) (a == b) :=
  TsF.cmp hl (fun _ _ _ _ x => x) hr (fun _ _ _ _ ⟨_, hv⟩ ⟨_, hu⟩ s _ _ _ h => by subst hv hu; exact eq_str (h s.toks)) hm
theorem TsF.neS {l r : Expr} {pos : Pos} {a b : Str} (hl : EvF w A e sc B vals g₀ l (VS a)) (hr : EvF w A e sc B vals g₀ r (VS b)) (hm : behindInMarks .NotEq r = false := by with_unfolding_all rfl) : TsF w A e sc B vals g₀ (.Compare l [.NotEq] [r] pos) (a != b) :=
  TsF.cmp hl (fun _ _ _ _ x => x) hr (fun _ _ _ _ ⟨_, hv⟩ ⟨_, hu⟩ s _ _ _ h => by subst hv hu; exact ne_str (h s.toks)) hm
theorem TsF.leS {l r : Expr} {pos : Pos} {a b : Str} (hl : EvF w A e sc B vals g₀ l (VS a)) (hr : EvF w A e sc B vals g₀ r (VS b)) (hm : behindInMarks .LtE r = false := by with_unfolding_all rfl) : TsF w A e sc B vals g₀ (.Compare l [.LtE] [r] pos) (!(decide (b.cps.toList < a.cps.toList))) :=
  TsF.cmp hl (fun _ _ _ _ x => x) hr (fun _ _ _ _ ⟨_, hv⟩ ⟨_, hu⟩ s _ _ _ h => by subst hv hu; exact P.le_str (h s.toks)) hm
theorem TsF.inS {l r : Expr} {pos : Pos} {a b : Str} (hl : EvF w A e sc B vals g₀ l (VS a)) (hr : EvF w A e sc B vals g₀ r (VS b)) (hm : behindInMarks .In r = false := by with_unfolding_all rfl) :
    TsF w A e sc B vals g₀ (.Compare l [.In] [r] pos) (!(Builtin.Str.occurrences b a 0 b.length 1).isEmpty) :=
  TsF.cmp hl (fun _ _ _ _ x => x) hr (fun _ _ _ _ ⟨_, hv⟩ ⟨_, hu⟩ s _ _ _ h => by subst hv hu; exact in_str (h s.toks)) hm
end
end Mine

end

section
open PySem PySem.W PyProof.Rows PySem.Calls
set_option Elab.async false
set_option linter.unusedVariables false
namespace Mine

/-! ## a text as a list of its signs -/
def T (l : List Nat) : Str := ⟨l.toArray⟩
theorem T_len (l : List Nat) : (T l).length = l.length := by show l.toArray.size = _; simp
theorem T_inj {a b : List Nat} (h : T a = T b) : a = b := by
  have : (T a).cps.toList = (T b).cps.toList := by rw [h]
  simpa [T] using this
theorem T_eq {a b : List Nat} : (T a == T b) = (a == b) := by
  by_cases h : a = b
  · subst h; simp
  · have : T a ≠ T b := fun z => h (T_inj z)
    rw [beq_eq_false_iff_ne.mpr this, beq_eq_false_iff_ne.mpr h]
theorem T_ne {a b : List Nat} : (T a != T b) = (a != b) := by
  show (!(T a == T b)) = !(a == b); rw [T_eq]
theorem T_add (a b : List Nat) : T a ++ T b = T (a ++ b) := by
  show Str.mk (_ ++ _) = _
  simp [T]
theorem T_of (x : Str) : x = T x.cps.toList := by cases x; simp [T]
theorem T_cps (l : List Nat) : (T l).cps.toList = l := by simp [T]
abbrev VT (l : List Nat) : Heap → Value → Prop := VS (T l)
abbrev VN (n : Nat) : Heap → Value → Prop := VI (n : Int)

theorem T_slice {l : List Nat} {i j : Int} (h0 : 0 ≤ i) (h1 : i ≤ j) (h2 : j ≤ l.length) : Txt.slice (T l) (some i) (some j) = T ((l.drop i.toNat).take (j - i).toNat) := by
  have := slice_closes (x := T l) (i := i) (j := j) ⟨h0, h1, by rw [T_cps]; exact h2⟩
  rw [T_cps] at this
  exact beq_iff_eq.mp this
theorem idx_beyond {n : Nat} {i : Int} (h : (n : Int) ≤ i) : Builtin.Str.strSliceIndices none (some i) 1 n = Builtin.Str.strSliceIndices none (some (n : Int)) 1 n := by
  have h0 : ¬ i < 0 := by omega
  have h1 : ¬ ((n : Int) < 0) := by omega
  have h2 : (1 : Int) > 0 := by decide
  simp only [Builtin.Str.strSliceIndices, h0, h1, h2, if_false, if_true, Int.min_eq_right h, Int.min_self]
theorem T_to {l : List Nat} {j : Int} (h0 : 0 ≤ j) : Txt.slice (T l) none (some j) = T (l.take j.toNat) := by
  by_cases h2 : j ≤ l.length
  · have := slice_closes_to (x := T l) (j := j) ⟨h0, by rw [T_cps]; exact h2⟩
    rw [T_cps] at this
    rw [beq_iff_eq.mp this]; simp [T]
  · have e2 : Txt.slice (T l) none (some j) = Txt.slice (T l) none (some ((T l).length : Int)) := by
      unfold Txt.slice
      rw [idx_beyond (by rw [T_len]; omega)]
    rw [T_len] at e2
    have := slice_closes_to (x := T l) (j := (l.length : Int)) ⟨by omega, by rw [T_cps]; omega⟩
    rw [T_cps] at this
    rw [e2, beq_iff_eq.mp this, List.take_of_length_le (by simp), List.take_of_length_le (by omega)]; rfl
theorem T_from {l : List Nat} {i : Int} (h0 : 0 ≤ i) : Txt.slice (T l) (some i) none = T (l.drop i.toNat) := by
  by_cases h2 : i ≤ l.length
  · rw [slice_from_eq (b := l.length) h0 (by rw [T_len]; exact h2) (by rw [T_len]), T_cps]
    rw [List.take_of_length_le (by simp; omega)]; rfl
  · rw [slice_beyond (by rw [T_len]; omega), List.drop_of_length_le (by omega)]; rfl
theorem T_to_neg {l : List Nat} {j : Int} (h0 : j < 0) : Txt.slice (T l) none (some j) = T (l.take (l.length - (-j).toNat)) := by
  rw [slice_to_neg h0, T_to (by omega), T_len]
  congr 2; omega

/-! ## expressions in a row -/
structure EvL (w : World) (A : Around) (e : Env) (sc : Scope) (B : Base) (vals : List (Option Value)) (g₀ : Heap) (pos : Pos) (ts : List Expr) (V : Heap → List Value → Prop) : Prop where
  run : ∀ (s : Shared) (g : Heap) (Q : List Value → Shared → Prop) (E : Value → Shared → Prop), Up g₀ g → Fz e sc B g s.heap vals →
    (∀ v g' h' tk, Up s.heap h' → Up g g' → Fz e sc B g' h' vals → V g' v → Q v { s with heap := h', toks := tk }) → wpAny (model pw w) A (spliced (backTo pos (starEach ts e))) Q E s

section
variable {w : World} {A : Around} {E : Value → Shared → Prop} {s : Shared} {e : Env} {sc : Scope} {B : Base} {g g₀ : Heap} {vals : List (Option Value)} {pos : Pos}

theorem EvL.nil : EvL w A e sc B vals g₀ pos [] (fun _ vs => vs = []) := .mk fun s g _ _ _ F h => wpAny_items_nil (h [] g s.heap s.toks Up.rfl' Up.rfl' F rfl)
theorem EvL.cons {t : Expr} {ts : List Expr} {V : Heap → Value → Prop} {U : Heap → List Value → Prop} (ht : EvF w A e sc B vals g₀ t V) (hm : Mono V) (hts : EvL w A e sc B vals g₀ pos ts U)
    (he : starEach (t :: ts) e = (false, eval t e) :: starEach ts e := by rfl) : EvL w A e sc B vals g₀ pos (t :: ts) (fun h vs => ∃ v us, vs = v :: us ∧ V h v ∧ U h us) := .mk fun s g Q E u F h =>
  wpAny_items_cons (ht.run s g _ E u F fun v g₁ h₁ tk₁ u₁ ug₁ F₁ hv => hts.run { s with heap := h₁, toks := tk₁ } g₁ _ E (u.tr ug₁) F₁ fun vs g₂ h₂ tk₂ u₂ ug₂ F₂ hvs =>
    h (v :: vs) g₂ h₂ tk₂ (u₁.tr u₂) (ug₁.tr ug₂) F₂ ⟨v, vs, rfl, hm _ _ _ ug₂ hv, hvs⟩) he
theorem EvL.weak {ts : List Expr} {V V' : Heap → List Value → Prop} (x : EvL w A e sc B vals g₀ pos ts V) (h : ∀ g vs, Up g₀ g → V g vs → V' g vs) : EvL w A e sc B vals g₀ pos ts V' := .mk
  fun s g Q E u F k => x.run s g Q E u F fun v g' h' tk u' ug' F' hv => k v g' h' tk u' ug' F' (h _ _ (u.tr ug') hv)
theorem EvL.one {t : Expr} {V : Heap → Value → Prop} (ht : EvF w A e sc B vals g₀ t V) (hm : Mono V) (he : starEach [t] e = (false, eval t e) :: starEach [] e := by rfl) :
    EvL w A e sc B vals g₀ pos [t] (fun h vs => ∃ v, vs = [v] ∧ V h v) := (EvL.cons ht hm EvL.nil he).weak fun _ _ _ ⟨v, us, a, b, c⟩ => ⟨v, by rw [a, c], b⟩
theorem EvL.two {t r : Expr} {V U : Heap → Value → Prop} (ht : EvF w A e sc B vals g₀ t V) (hm : Mono V) (hr : EvF w A e sc B vals g₀ r U) (hn : Mono U) (he : starEach [t, r] e = (false, eval t e) :: starEach [r] e := by rfl)
    (he' : starEach [r] e = (false, eval r e) :: starEach [] e := by rfl) : EvL w A e sc B vals g₀ pos [t, r] (fun h vs => ∃ v u, vs = [v, u] ∧ V h v ∧ U h u) :=
  (EvL.cons ht hm (EvL.one hr hn he') he).weak fun _ _ _ ⟨v, us, a, b, u, c, d⟩ => ⟨v, u, by rw [a, c], b, d⟩

theorem evalArgs_any {f : Value} {args : List (Bool × Sem Value)} {Q : Args → Shared → Prop} (hp : args.any (·.1) = false)
    (h : wpAny (model pw w) A (spliced args) (fun vs s' => Q ⟨vs, []⟩ s') E s) : wpAny (model pw w) A (evalArgs f true args []) Q E s := by
  cases args with
  | nil =>
    have e : evalArgs f true [] [] = (spliced [] >>= fun vs => pure ⟨vs, []⟩) := rfl
    rw [e]
    exact wpAny_bind (wpAny_mono h (fun _ _ q => wpAny_pure q) fun _ _ q => q)
  | cons p r =>
    obtain ⟨b, t⟩ := p
    cases b with
    | true => simp at hp
    | false => exact evalArgs_plain h

/-- how a call of a built-in ends -/
abbrev CallB (w : World) (A : Around) (e : Env) (sc : Scope) (B : Base) (vals : List (Option Value)) (g : Heap) (f : Value) (vs : List Value) (W : Heap → Value → Prop) : Prop :=
  ∀ (s : Shared) (Q E : Value → Shared → Prop), Fz e sc B g s.heap vals → (∀ v g' h' tk, Up s.heap h' → Up g g' → Fz e sc B g' h' vals → W g' v → Q v { s with heap := h', toks := tk }) → wpAny (model pw w) A (call f vs []) Q E s

theorem EvF.callB {f : Str} {p pos : Pos} {ts : List Expr} {id : String} {V : Heap → List Value → Prop} {W : Heap → Value → Prop} (hf : EvF w A e sc B vals g₀ (.Name f p) (fun _ v => v = .builtin id)) (ha : EvL w A e sc B vals g₀ pos ts V)
    (hc : ∀ g vs, Up g₀ g → V g vs → CallB w A e sc B vals g (.builtin id) vs W)
    (hp : (backTo pos (starEach ts e)).any (·.1) = false := by rfl) :
    EvF w A e sc B vals g₀ (.Call (.Name f p) ts [] pos) W := .mk fun s g Q E u F h => by
  refine wpAny_Call_NameR (hf.run s g _ E u F fun v g₁ h₁ tk₁ u₁ ug₁ F₁ hv => ?_)
  subst hv
  refine callWith_builtin hp (evalArgs_any hp (ha.run { s with heap := h₁, toks := tk₁ } g₁ _ E (u.tr ug₁) F₁ fun vs g₂ h₂ tk₂ u₂ ug₂ F₂ hvs => ?_))
  exact hc g₂ vs ((u.tr ug₁).tr ug₂) hvs { s with heap := h₂, toks := tk₂ } Q E F₂ fun v g₃ h₃ tk₃ u₃ ug₃ F₃ hv => h v g₃ h₃ tk₃ ((u₁.tr u₂).tr u₃) ((ug₁.tr ug₂).tr ug₃) F₃ hv
theorem EvF.callT {f : Str} {p pos : Pos} {ts : List Expr} {T : String} {V : Heap → List Value → Prop} {W : Heap → Value → Prop} (hf : EvF w A e sc B vals g₀ (.Name f p) (fun _ v => v = .type T)) (ha : EvL w A e sc B vals g₀ pos ts V)
    (hc : ∀ g vs, Up g₀ g → V g vs → CallB w A e sc B vals g (.type T) vs W)
    (hp : (backTo pos (starEach ts e)).any (·.1) = false := by rfl) :
    EvF w A e sc B vals g₀ (.Call (.Name f p) ts [] pos) W := .mk fun s g Q E u F h => by
  refine wpAny_Call_NameR (hf.run s g _ E u F fun v g₁ h₁ tk₁ u₁ ug₁ F₁ hv => ?_)
  subst hv
  refine PySem.callWith_type hp (evalArgs_any hp (ha.run { s with heap := h₁, toks := tk₁ } g₁ _ E (u.tr ug₁) F₁ fun vs g₂ h₂ tk₂ u₂ ug₂ F₂ hvs => ?_))
  exact hc g₂ vs ((u.tr ug₁).tr ug₂) hvs { s with heap := h₂, toks := tk₂ } Q E F₂ fun v g₃ h₃ tk₃ u₃ ug₃ F₃ hv => h v g₃ h₃ tk₃ ((u₁.tr u₂).tr u₃) ((ug₁.tr ug₂).tr ug₃) F₃ hv
theorem EvF.callD {f : Str} {p pos : Pos} {ts : List Expr} {a : Addr} {st : Stmt} {qual : Str} {V : Heap → List Value → Prop} {W : Heap → Value → Prop} {n : Nat} (hf : EvF w A e sc B vals g₀ (.Name f p) (fun _ v => v = .ref a)) (hfn : FnAt g₀ a st qual)
    (ha : EvL w A e sc B vals g₀ pos ts V) (R : Room A n)
    (hc : ∀ g vs, Up g₀ g → V g vs → ∃ P, P g ∧ Gives w n (.ref a) vs P W)
    (hp : (backTo pos (starEach ts e)).any (·.1) = false := by rfl) :
    EvF w A e sc B vals g₀ (.Call (.Name f p) ts [] pos) W := .mk fun s g Q E u F h => by
  refine wpAny_Call_NameR (hf.run s g _ E u F fun v g₁ h₁ tk₁ u₁ ug₁ F₁ hv => ?_)
  subst hv
  obtain ⟨o, fd, h1, h2, _⟩ := hfn.at_
  refine callWith_function (o := o) (fd := fd) (evalArgs_any hp (ha.run { s with heap := h₁, toks := tk₁ } g₁ _ E (u.tr ug₁) F₁ fun vs g₂ h₂ tk₂ u₂ ug₂ F₂ hvs => ⟨⟨F₂.vis _ _ (ug₂ _ _ (ug₁ _ _ (u _ _ h1))), h2⟩, ?_⟩))
  obtain ⟨P, hP, C⟩ := hc g₂ vs ((u.tr ug₁).tr ug₂) hvs
  exact C.use (s := { s with heap := h₂, toks := tk₂ }) R F₂ hP fun v g₃ h₃ tk₃ u₃ ug₃ F₃ hv => h v g₃ h₃ tk₃ ((u₁.tr u₂).tr u₃) ((ug₁.tr ug₂).tr ug₃) F₃ hv

/-! ### names of the text and built-in names -/
theorem EvF.glob {mg : Str → Option Value} {x : Str} {i : Nat} {v : Value} {p : Pos} (G : Gd mg g₀) (hn : nmAt sc x = some (i, .globalImplicit)) (hv : mg x = some v) (hd : (x == ("__debug__" : Str)) = false := by decide +kernel) :
    EvF w A e sc B vals g₀ (.Name x p) (fun _ u => u = v) := .mk fun s g Q E u F h => ldG F (G.up u) hn hv (h _ g s.heap s.toks Up.rfl' Up.rfl' F rfl) hd
theorem EvF.bltin {mg : Str → Option Value} {x : Str} {i : Nat} {v : Value} {p : Pos} (G : Gd mg g₀) (hn : nmAt sc x = some (i, .globalImplicit)) (hm : mg x = Option.none) (hv : bootBuiltins x = some v) (hx : x ≠ "__name__" := by decide +kernel)
    (hd : (x == ("__debug__" : Str)) = false := by decide +kernel) : EvF w A e sc B vals g₀ (.Name x p) (fun _ u => u = v) := .mk fun s g Q E u F h => ldB F (G.up u) hn hm hv (h _ g s.heap s.toks Up.rfl' Up.rfl' F rfl) hx hd
theorem EvF.strT {x : Str} {k : Nat} {l : List Nat} {p : Pos} (h : x = T l := by decide +kernel) : EvF w A e sc B vals g₀ (.Constant (.str x) k p) (VT l) := by subst h; exact EvF.str
theorem EvF.sg (c : Nat) {x : Str} {k : Nat} {p : Pos} (h : x = T [c] := by decide +kernel) : EvF w A e sc B vals g₀ (.Constant (.str x) k p) (VT [c]) := by subst h; exact EvF.str
theorem EvF.localT {x : Str} {i : Nat} {l : List Nat} {t : Tok} {p : Pos} (hn : nmAt sc x = some (i, .local)) (hv : at' vals i = some (.str (T l) t)) (hd : (x == ("__debug__" : Str)) = false := by decide +kernel) : EvF w A e sc B vals g₀ (.Name x p) (VT l) :=
  EvF.localS hn hv hd
theorem EvF.localN {x : Str} {i : Nat} {n : Nat} {t : Tok} {p : Pos} (hn : nmAt sc x = some (i, .local)) (hv : at' vals i = some (.int (n : Int) t)) (hd : (x == ("__debug__" : Str)) = false := by decide +kernel) : EvF w A e sc B vals g₀ (.Name x p) (VN n) :=
  EvF.localI hn hv hd
theorem TsF.eqT {l r : Expr} {pos : Pos} {a b : List Nat} (hl : EvF w A e sc B vals g₀ l (VT a)) (hr : EvF w A e sc B vals g₀ r (VT b)) (hm : behindInMarks .Eq r = false := by with_unfolding_all rfl) : TsF w A e sc B vals g₀ (.Compare l [.Eq] [r] pos) (a == b) := by
  have := TsF.eqS (pos := pos) hl hr hm; rwa [T_eq] at this
theorem TsF.neT {l r : Expr} {pos : Pos} {a b : List Nat} (hl : EvF w A e sc B vals g₀ l (VT a)) (hr : EvF w A e sc B vals g₀ r (VT b)) (hm : behindInMarks .NotEq r = false := by with_unfolding_all rfl) : TsF w A e sc B vals g₀ (.Compare l [.NotEq] [r] pos) (a != b) := by
  have := TsF.neS (pos := pos) hl hr hm; rwa [T_ne] at this
theorem TsF.leT1 {l r : Expr} {pos : Pos} {a b : Nat} (hl : EvF w A e sc B vals g₀ l (VT [a])) (hr : EvF w A e sc B vals g₀ r (VT [b])) (hm : behindInMarks .LtE r = false := by with_unfolding_all rfl) : TsF w A e sc B vals g₀ (.Compare l [.LtE] [r] pos) (decide (a ≤ b)) := by
  have := TsF.leS (pos := pos) hl hr hm
  rw [T_cps, T_cps] at this
  have e : (!decide ([b] < [a])) = decide (a ≤ b) := by
    have : ([b] < [a]) ↔ b < a := by simp [List.cons_lt_cons_iff]
    by_cases h : a ≤ b
    · rw [decide_eq_false (fun z => absurd (this.mp z) (by omega)), decide_eq_true h]; rfl
    · rw [decide_eq_true (this.mpr (by omega)), decide_eq_false h]; rfl
  rwa [e] at this
theorem TsF.inT1 {l r : Expr} {pos : Pos} {a : Nat} {b : List Nat} (hl : EvF w A e sc B vals g₀ l (VT [a])) (hr : EvF w A e sc B vals g₀ r (VT b)) (hm : behindInMarks .In r = false := by with_unfolding_all rfl) :
    TsF w A e sc B vals g₀ (.Compare l [.In] [r] pos) (decide (a ∈ b)) := by
  have := TsF.inS (pos := pos) hl hr hm
  have e : (!(Builtin.Str.occurrences (T b) (T [a]) 0 (T b).length 1).isEmpty) = decide (a ∈ b) := by
    have h := StrLaws.found_one (T b) a
    rw [T_cps] at h
    exact h
  rwa [e] at this
theorem EvF.addT {l r : Expr} {pos : Pos} {a b : List Nat} (hl : EvF w A e sc B vals g₀ l (VT a)) (hr : EvF w A e sc B vals g₀ r (VT b)) (hsz : a.length + b.length ≤ sizeLine) : EvF w A e sc B vals g₀ (.BinOp l .Add r pos) (VT (a ++ b)) := by
  have := EvF.addS (pos := pos) hl hr (by rw [T_len, T_len]; exact hsz); rwa [T_add] at this

/-! ### built-in calls -/
theorem EvF.lenT {f : Str} {p pos : Pos} {t : Expr} {x : List Nat} (hf : EvF w A e sc B vals g₀ (.Name f p) (fun _ v => v = .builtin "len")) (ha : EvF w A e sc B vals g₀ t (VT x)) (hx : x.length ≤ sizeLine)
    (he : starEach [t] e = (false, eval t e) :: starEach [] e := by rfl) (hp : (backTo pos (starEach [t] e)).any (·.1) = false := by rfl) :
    EvF w A e sc B vals g₀ (.Call (.Name f p) [t] [] pos) (VN x.length) :=
  EvF.callB hf (EvL.one ha Mono.vs he) (fun g vs _ ⟨v, e1, t, e2⟩ s Q E F k => by
    subst e1 e2
    refine len_str (by rw [T_len]; rw [sizeLine_eq] at hx; omega) ?_
    rw [T_len]
    exact (k _ g s.heap _ Up.rfl' Up.rfl' F ⟨_, rfl⟩)) hp

theorem EvF.sub {v i : Expr} {pos : Pos} {V U W : Heap → Value → Prop} (hv : EvF w A e sc B vals g₀ v V) (hV : Mono V) (hi : EvF w A e sc B vals g₀ i U)
    (hc : ∀ g x y, Up g₀ g → V g x → U g y → ∀ (s : Shared) (Q E : Value → Shared → Prop), Fz e sc B g s.heap vals → (∀ z g' h' tk, Up s.heap h' → Up g g' → Fz e sc B g' h' vals → W g' z → Q z { s with heap := h', toks := tk }) →
      wpAny (model pw w) A (subscriptTail v i x y) Q E s) :
    EvF w A e sc B vals g₀ (.Subscript v i pos) W := .mk fun s g Q E u F h =>
  Subscript_ (hv.run s g _ E u F fun x g₁ h₁ tk₁ u₁ ug₁ F₁ hx => hi.run { s with heap := h₁, toks := tk₁ } g₁ _ E (u.tr ug₁) F₁ fun y g₂ h₂ tk₂ u₂ ug₂ F₂ hy =>
    hc g₂ x y ((u.tr ug₁).tr ug₂) (hV _ _ _ ug₂ hx) hy { s with heap := h₂, toks := tk₂ } Q E F₂ fun z g₃ h₃ tk₃ u₃ ug₃ F₃ hz => h z g₃ h₃ tk₃ ((u₁.tr u₂).tr u₃) ((ug₁.tr ug₂).tr ug₃) F₃ hz)

theorem T_item {l : List Nat} {k : Nat} (h : k < l.length) : Txt.item (T l) (k : Int) = T [l.getD k 0] := by
  refine item_meets (n := l.getD k 0) (by omega) ?_
  simp [T, h]
theorem EvF.itemT {v i : Expr} {pos : Pos} {x : List Nat} {k : Nat} (hv : EvF w A e sc B vals g₀ v (VT x)) (hi : EvF w A e sc B vals g₀ i (VN k)) (hk : k < x.length) (hx : x.length ≤ sizeLine)
    (hs : ∀ y t u, subscripted i false (.str y t) (.int k u) = operate [.str y t, .int k u] (getItem (.str y t) (.int k u)) := by intro _ _ _; with_unfolding_all rfl)
    (ht : ∀ y t r, letTemporaryGo v (.str y t) r = pure () := by intro _ _ _; with_unfolding_all rfl) : EvF w A e sc B vals g₀ (.Subscript v i pos) (VT [x.getD k 0]) :=
  EvF.sub hv Mono.vs hi fun g _ _ _ ⟨t, e1⟩ ⟨u, e2⟩ s Q E F h => by
    subst e1 e2
    refine KXi.item rfl (by rw [T_len]; omega) (by rw [T_len]; omega) (by rw [T_len]; rw [sizeLine_eq] at hx; exact hx) (fun _ => ?_) (hs _ _ _) (ht _ _)
    rw [T_item hk]
    exact h _ g s.heap _ Up.rfl' Up.rfl' F ⟨_, rfl⟩

/-- a part of a slice: nothing, or an int -/
structure EvP (w : World) (A : Around) (e : Env) (sc : Scope) (B : Base) (vals : List (Option Value)) (g₀ : Heap) (t : Option Expr) (l : Option Int) : Prop where
  run : ∀ (s : Shared) (g : Heap) (Q E : Value → Shared → Prop), Up g₀ g → Fz e sc B g s.heap vals →
    (∀ u g' h' tk, Up s.heap h' → Up g g' → Fz e sc B g' h' vals → Q (partValue (l.map (·, u))) { s with heap := h', toks := tk }) → wpAny (model pw w) A (evalPart t e) Q E s
theorem EvP.nil : EvP w A e sc B vals g₀ Option.none Option.none := .mk fun s g Q E _ F h => wpAny_evalPart_none (h 0 g s.heap s.toks Up.rfl' Up.rfl' F)
theorem EvP.val {t : Expr} {i : Int} (x : EvF w A e sc B vals g₀ t (VI i)) : EvP w A e sc B vals g₀ (Option.some t) (Option.some i) := .mk fun s g Q E u F h =>
  wpAny_evalPart_some (x.run s g _ E u F fun v g' h' tk u' ug' F' ⟨t', e1⟩ => by subst e1; exact h t' g' h' tk u' ug' F')
theorem EvF.sliceS {v : Expr} {lo hi : Option Expr} {p pos : Pos} {x : Str} {l u : Option Int} (hv : EvF w A e sc B vals g₀ v (VS x)) (hl : EvP w A e sc B vals g₀ lo l) (hu : EvP w A e sc B vals g₀ hi u) (hx : x.length ≤ sizeLine)
    (ht : ∀ o r, letTemporaryGo v o r = pure () := by intro _ _; rfl) : EvF w A e sc B vals g₀ (.Subscript v (.Slice lo hi Option.none p) pos) (VS (Txt.slice x l u)) := .mk fun s g Q E up F h => by
  refine wpAny_Subscript_str_slice (hv.run s g _ E up F fun a g₁ h₁ tk₁ u₁ ug₁ F₁ ⟨t, e1⟩ => hl.run { s with heap := h₁, toks := tk₁ } g₁ _ E (up.tr ug₁) F₁ fun a₂ g₂ h₂ tk₂ u₂ ug₂ F₂ =>
    hu.run { s with heap := h₂, toks := tk₂ } g₂ _ E ((up.tr ug₁).tr ug₂) F₂ fun a₃ g₃ h₃ tk₃ u₃ ug₃ F₃ => ?_) ht
  refine ⟨x, t, l.map (·, a₂), u.map (·, a₃), e1, rfl, rfl, ?_⟩
  have key : ∀ (t' : Tok) (k : Nat), Q (.str (Txt.slice x l u) t') { s with heap := h₃.push { cls := .type "slice", data := .fields #[partValue (l.map (·, a₂)), partValue (u.map (·, a₃)), .none] }, toks := k } := fun t' k =>
    h _ g₃ _ k ((u₁.tr (u₂.tr u₃)).tr (Up.push _)) (ug₁.tr (ug₂.tr ug₃)) (F₃.push _) ⟨t', rfl⟩
  have e2 : ((l.map (·, a₂)).map (·.1)) = l := by cases l <;> rfl
  have e3 : ((u.map (·, a₃)).map (·.1)) = u := by cases u <;> rfl
  unfold sliceMade slicePicked
  rw [e2, e3]
  have hle := Nat.le_trans (Txt.slice_le x l u) hx
  unfold Txt.slice at key hle
  split at key
  · rename_i c
    rw [if_pos c] at hle
    have c' : ((((Option.none : Option (Int × Tok)).map (·.1)).getD 1 == 1 && (Builtin.Str.strSliceIndices l u (((Option.none : Option (Int × Tok)).map (·.1)).getD 1) x.length).length == x.length)) = true := c
    rw [if_pos c']
    exact key t tk₃
  · rename_i c
    rw [if_neg c] at hle
    have c' : ¬ ((((Option.none : Option (Int × Tok)).map (·.1)).getD 1 == 1 && (Builtin.Str.strSliceIndices l u (((Option.none : Option (Int × Tok)).map (·.1)).getD 1) x.length).length == x.length)) = true := c
    rw [if_neg c']
    exact ⟨hle, key tk₃ (tk₃ + 1)⟩
theorem EvF.sliceT {v : Expr} {lo hi : Option Expr} {p pos : Pos} {x y : List Nat} {l u : Option Int} (hv : EvF w A e sc B vals g₀ v (VT x)) (hl : EvP w A e sc B vals g₀ lo l) (hu : EvP w A e sc B vals g₀ hi u) (hx : x.length ≤ sizeLine)
    (hy : Txt.slice (T x) l u = T y) (ht : ∀ o r, letTemporaryGo v o r = pure () := by intro _ _; rfl) : EvF w A e sc B vals g₀ (.Subscript v (.Slice lo hi Option.none p) pos) (VT y) := by
  have := EvF.sliceS (pos := pos) (p := p) hv hl hu (by rw [T_len]; exact hx) ht
  rwa [hy] at this
end
end Mine

end

section
open PySem PySem.W PyProof.Rows PySem.Calls
set_option Elab.async false
set_option linter.unusedVariables false
namespace Mine

/-! ## statements: a block that does not raise -/
abbrev PostT := Heap → Flow → List (Option Value) → Prop
structure BlF (w : World) (A : Around) (e : Env) (sc : Scope) (B : Base) (vals : List (Option Value)) (g₀ : Heap) (ss : List Stmt) (P : PostT) : Prop where
  run : ∀ (s : Shared) (g : Heap) (Q : Flow → Shared → Prop) (E : Value → Shared → Prop), Up g₀ g → Fz e sc B g s.heap vals →
    (∀ f g' h' tk vals', Up g g' → Fz e sc B g' h' vals' → P g' f vals' → Q f { s with heap := h', toks := tk }) → wpAny (model pw w) A (execs ss e) Q E s
structure StF (w : World) (A : Around) (e : Env) (sc : Scope) (B : Base) (vals : List (Option Value)) (g₀ : Heap) (ss : Stmt) (P : PostT) : Prop where
  run : ∀ (s : Shared) (g : Heap) (Q : Flow → Shared → Prop) (E : Value → Shared → Prop), Up g₀ g → Fz e sc B g s.heap vals →
    (∀ f g' h' tk vals', Up g g' → Fz e sc B g' h' vals' → P g' f vals' → Q f { s with heap := h', toks := tk }) → wpAny (model pw w) A (exec ss e) Q E s

section
variable {w : World} {A : Around} {E : Value → Shared → Prop} {s : Shared} {e : Env} {sc : Scope} {B : Base} {g g₀ : Heap} {vals : List (Option Value)} {pos : Pos} {rest : List Stmt} {P : PostT}

theorem BlF.up {g₁ : Heap} {ss : List Stmt} (x : BlF w A e sc B vals g₀ ss P) (u : Up g₀ g₁) : BlF w A e sc B vals g₁ ss P := .mk fun s g Q E u' F h => x.run s g Q E (u.tr u') F h
theorem BlF.weak {P' : PostT} {ss : List Stmt} (x : BlF w A e sc B vals g₀ ss P) (h : ∀ g f v, Up g₀ g → P g f v → P' g f v) : BlF w A e sc B vals g₀ ss P' := .mk fun s g Q E u F k =>
  x.run s g Q E u F fun f g' h' tk vals' ug F' p => k f g' h' tk vals' ug F' (h _ _ _ (u.tr ug) p)
theorem BlF.nil (h : ∀ g, Up g₀ g → P g .next vals) : BlF w A e sc B vals g₀ [] P := .mk fun s g Q E u F k => wpAny_execs_nil (k .next g s.heap s.toks vals Up.rfl' F (h g u))
theorem BlF.step {st : Stmt} {M : PostT} (h1 : StF w A e sc B vals g₀ st M) (h2 : ∀ g f v, Up g₀ g → M g f v → match f with | .next => BlF w A e sc B v g rest P | f => P g f v) :
    BlF w A e sc B vals g₀ (st :: rest) P := .mk fun s g Q E u F k => by
  refine wpAny_execs_cons (h1.run s g _ E u F fun f g' h' tk vals' ug F' p => ?_)
  have h2' := h2 g' f vals' (u.tr ug) p
  cases f with
  | next => exact BlF.run h2' { s with heap := h', toks := tk } g' Q E Up.rfl' F' fun f g'' h'' tk' vals'' ug' F'' p' => k f g'' h'' tk' vals'' (ug.tr ug') F'' p'
  | _ => exact k _ g' h' tk vals' ug F' h2'

theorem StF.assign {x : Str} {i : Nat} {t : Expr} {p : Pos} {V : Heap → Value → Prop} (ht : EvF w A e sc B vals g₀ t V) (hn : nmAt sc x = some (i, .local)) (hl : i < vals.length)
    (hs : swapsWith t (some (.Name x p)) pos.line e = pure false := by rfl) :
    StF w A e sc B vals g₀ (.Assign [.Name x p] t pos) (fun g f v => f = .next ∧ ∃ y, V g y ∧ v = setAt i (some y) vals) := .mk fun s g Q E u F k =>
  wpAny_Assign_Name (ht.run s g _ E u F fun v g' h' tk u' ug F' hv => stL (s := { s with heap := h', toks := tk }) F' hn hl fun h'' tk' F'' _ _ => k .next g' h'' tk' _ ug F'' ⟨rfl, v, hv, rfl⟩) hs
theorem StF.assignC {x : Str} {i : Nat} {t : Expr} {p : Pos} {V : Heap → Value → Prop} (ht : EvF w A e sc B vals g₀ t V) (hn : nmAt sc x = some (i, .cell)) (hl : i < vals.length)
    (hs : swapsWith t (some (.Name x p)) pos.line e = pure false := by rfl) :
    StF w A e sc B vals g₀ (.Assign [.Name x p] t pos) (fun g f v => f = .next ∧ ∃ y, V g y ∧ v = setAt i (some y) vals) := .mk fun s g Q E u F k =>
  wpAny_Assign_Name (ht.run s g _ E u F fun v g' h' tk u' ug F' hv => stC (s := { s with heap := h', toks := tk }) F' hn hl fun h'' tk' F'' _ _ => k .next g' h'' tk' _ ug F'' ⟨rfl, v, hv, rfl⟩) hs
theorem BlF.assign {x : Str} {i : Nat} {t : Expr} {p : Pos} {V : Heap → Value → Prop} (ht : EvF w A e sc B vals g₀ t V) (hn : nmAt sc x = some (i, .local))
    (h : ∀ g y, Up g₀ g → V g y → BlF w A e sc B (setAt i (some y) vals) g rest P)
    (hl : i < vals.length := by simp [setAt]) (hs : swapsWith t (some (.Name x p)) pos.line e = pure false := by rfl) : BlF w A e sc B vals g₀ (.Assign [.Name x p] t pos :: rest) P :=
  BlF.step (StF.assign ht hn hl hs) fun g f v u ⟨e1, y, hy, e2⟩ => by subst e1 e2; exact h g y u hy
theorem BlF.assignC {x : Str} {i : Nat} {t : Expr} {p : Pos} {V : Heap → Value → Prop} (ht : EvF w A e sc B vals g₀ t V) (hn : nmAt sc x = some (i, .cell))
    (h : ∀ g y, Up g₀ g → V g y → BlF w A e sc B (setAt i (some y) vals) g rest P)
    (hl : i < vals.length := by simp [setAt]) (hs : swapsWith t (some (.Name x p)) pos.line e = pure false := by rfl) : BlF w A e sc B vals g₀ (.Assign [.Name x p] t pos :: rest) P :=
  BlF.step (StF.assignC ht hn hl hs) fun g f v u ⟨e1, y, hy, e2⟩ => by subst e1 e2; exact h g y u hy
theorem BlF.ret {t : Expr} {V : Heap → Value → Prop} (ht : EvF w A e sc B vals g₀ t V) (h : ∀ g y, Up g₀ g → V g y → P g (.ret y) vals) : BlF w A e sc B vals g₀ (.Return (some t) pos :: rest) P := .mk fun s g Q E u F k =>
  wpAny_execs_cons (wpAny_Return_some (ht.run s g _ E u F fun v g' h' tk u' ug F' hv => k (.ret v) g' h' tk vals ug F' (h g' v (u.tr ug) hv)))
theorem BlF.brk (h : ∀ g, Up g₀ g → P g .brk vals) : BlF w A e sc B vals g₀ (.Break pos :: rest) P := .mk fun s g Q E u F k =>
  wpAny_execs_cons (wpAny_Break (k .brk g s.heap s.toks vals Up.rfl' F (h g u)))
theorem BlF.cont (h : ∀ g, Up g₀ g → P g .cont vals) : BlF w A e sc B vals g₀ (.Continue pos :: rest) P := .mk fun s g Q E u F k =>
  wpAny_execs_cons (wpAny_Continue (k .cont g s.heap s.toks vals Up.rfl' F (h g u)))
theorem StF.ite {t : Expr} {b : Bool} {th el : List Stmt} (ht : TsF w A e sc B vals g₀ t b) (h1 : b = true → BlF w A e sc B vals g₀ th P) (h2 : b = false → BlF w A e sc B vals g₀ el P) :
    StF w A e sc B vals g₀ (.If t th el pos) P := .mk fun s g Q E u F k =>
  wpAny_If (ht.run s g _ E u F fun g' h' tk u' ug F' => by
    cases b with
    | true => exact (h1 rfl).run { s with heap := h', toks := tk } g' Q E (u.tr ug) F' fun f g'' h'' tk' vals' ug' F'' p => k f g'' h'' tk' vals' (ug.tr ug') F'' p
    | false => exact (h2 rfl).run { s with heap := h', toks := tk } g' Q E (u.tr ug) F' fun f g'' h'' tk' vals' ug' F'' p => k f g'' h'' tk' vals' (ug.tr ug') F'' p)
/-- an if whose arms go on to the rest, or leave -/
theorem BlF.ite {t : Expr} {b : Bool} {th el : List Stmt} (ht : TsF w A e sc B vals g₀ t b)
    (h1 : b = true → BlF w A e sc B vals g₀ th (fun g f v => match f with | .next => BlF w A e sc B v g rest P | f => P g f v))
    (h2 : b = false → BlF w A e sc B vals g₀ el (fun g f v => match f with | .next => BlF w A e sc B v g rest P | f => P g f v)) : BlF w A e sc B vals g₀ (.If t th el pos :: rest) P :=
  BlF.step (StF.ite ht h1 h2) fun _ _ _ _ p => p
/-- an if without else -/
theorem BlF.ite1 {t : Expr} {b : Bool} {th : List Stmt} (ht : TsF w A e sc B vals g₀ t b)
    (h1 : b = true → BlF w A e sc B vals g₀ th (fun g f v => match f with | .next => BlF w A e sc B v g rest P | f => P g f v))
    (h2 : b = false → BlF w A e sc B vals g₀ rest P) : BlF w A e sc B vals g₀ (.If t th [] pos :: rest) P :=
  BlF.ite ht h1 fun hb => BlF.nil fun g u => (h2 hb).up u

theorem StF.while {t : Expr} {body : List Stmt} (I : Nat → Heap → List (Option Value) → Prop)
    (turn : ∀ n g v, Up g₀ g → I n g v → ∃ b, TsF w A e sc B v g t b ∧
      (b = true → BlF w A e sc B v g body (fun g' f v' => match f with | .next | .cont => ∃ m, m < n ∧ I m g' v' | .brk => P g' .next v' | .ret y => P g' (.ret y) v')) ∧
      (b = false → ∀ g', Up g g' → P g' .next v))
    (n : Nat) (h : ∀ g, Up g₀ g → I n g vals) : StF w A e sc B vals g₀ (.While t body [] pos) P := .mk fun s g Q E u F k => by
  refine wpAny_While (codeAny_whileLoop (fun n s' => ∃ g' h' tk v, s' = { s with heap := h', toks := tk } ∧ Up g g' ∧ Fz e sc B g' h' v ∧ I n g' v) ?_ n ⟨g, s.heap, s.toks, vals, rfl, Up.rfl', F, h g u⟩)
  rintro n s' ⟨g', h', tk, v, rfl, ug, F', hI⟩
  obtain ⟨b, hb, h1, h2⟩ := turn n g' v (u.tr ug) hI
  refine hb.run { s with heap := h', toks := tk } g' _ _ Up.rfl' F' fun g₁ h₁ tk₁ u₁ ug₁ F₁ => ?_
  cases b with
  | false => exact wpAny_execs_nil (k .next g₁ h₁ tk₁ v (ug.tr ug₁) F₁ (h2 rfl g₁ ug₁))
  | true =>
    refine (h1 rfl).run { s with heap := h₁, toks := tk₁ } g₁ _ _ ug₁ F₁ fun f g₂ h₂ tk₂ v₂ ug₂ F₂ p => ?_
    cases f with
    | next => obtain ⟨m, hm, hI'⟩ := p; exact ⟨m, hm, g₂, h₂, tk₂, v₂, rfl, ug.tr (ug₁.tr ug₂), F₂, hI'⟩
    | cont => obtain ⟨m, hm, hI'⟩ := p; exact ⟨m, hm, g₂, h₂, tk₂, v₂, rfl, ug.tr (ug₁.tr ug₂), F₂, hI'⟩
    | brk => exact k .next g₂ h₂ tk₂ v₂ (ug.tr (ug₁.tr ug₂)) F₂ p
    | ret y => exact k (.ret y) g₂ h₂ tk₂ v₂ (ug.tr (ug₁.tr ug₂)) F₂ p

theorem BlF.while {t : Expr} {body : List Stmt} (I : Nat → Heap → List (Option Value) → Prop) (Aft : Heap → List (Option Value) → Prop)
    (turn : ∀ n g v, Up g₀ g → I n g v → ∃ b, TsF w A e sc B v g t b ∧
      (b = true → BlF w A e sc B v g body (fun g' f v' => match f with | .next | .cont => ∃ m, m < n ∧ I m g' v' | .brk => Aft g' v' | .ret y => P g' (.ret y) v')) ∧
      (b = false → ∀ g', Up g g' → Aft g' v))
    (n : Nat) (h : ∀ g, Up g₀ g → I n g vals) (k : ∀ g v, Up g₀ g → Aft g v → BlF w A e sc B v g rest P) : BlF w A e sc B vals g₀ (.While t body [] pos :: rest) P :=
  BlF.step (M := fun g f v => match f with | .next => Aft g v | f => P g f v) (StF.while I (fun n g v u i => by
    obtain ⟨b, h1, h2, h3⟩ := turn n g v u i
    exact ⟨b, h1, fun hb => (h2 hb).weak fun g f v _ p => by cases f <;> exact p, h3⟩) n h) fun g f v u p => by
      cases f with
      | next => exact k g v u p
      | _ => exact p

theorem StF.augL {x : Str} {i : Nat} {op : Operator} {t : Expr} {p : Pos} {old : Value} {V W : Heap → Value → Prop} (hn : nmAt sc x = some (i, .local)) (hv : at' vals i = some old) (hl : i < vals.length) (ht : EvF w A e sc B vals g₀ t V)
    (hop : ∀ g v, V g v → ∀ (s : Shared) (Q E : Value → Shared → Prop), (∀ x tk, W g x → Q x { s with toks := tk }) → wpAny (model pw w) A (inplaceOp op old v) Q E s) :
    StF w A e sc B vals g₀ (.AugAssign (.Name x p) op t pos) (fun g f v => f = .next ∧ ∃ y, W g y ∧ v = setAt i (some y) vals) := .mk fun s g Q E u F k =>
  wpAny_AugAssign_Name (ldL' F hn hv (ht.run s g _ E u F fun v g' h' tk u' ug F' hvv => hop g' v hvv _ _ _ fun y tk' hy =>
    stL (s := { s with heap := h', toks := tk' }) F' hn hl fun h'' tk'' F'' _ _ => k .next g' h'' tk'' _ ug F'' ⟨rfl, y, hy, rfl⟩))
theorem BlF.augL {x : Str} {i : Nat} {op : Operator} {t : Expr} {p : Pos} {old : Value} {V W : Heap → Value → Prop} (hn : nmAt sc x = some (i, .local)) (hv : at' vals i = some old) (ht : EvF w A e sc B vals g₀ t V)
    (hop : ∀ g v, V g v → ∀ (s : Shared) (Q E : Value → Shared → Prop), (∀ x tk, W g x → Q x { s with toks := tk }) → wpAny (model pw w) A (inplaceOp op old v) Q E s)
    (h : ∀ g y, Up g₀ g → W g y → BlF w A e sc B (setAt i (some y) vals) g rest P) (hl : i < vals.length := by simp [setAt]) : BlF w A e sc B vals g₀ (.AugAssign (.Name x p) op t pos :: rest) P :=
  BlF.step (StF.augL hn hv hl ht hop) fun g f v u ⟨e1, y, hy, e2⟩ => by subst e1 e2; exact h g y u hy
theorem BlF.incI {x : Str} {i : Nat} {t : Expr} {p : Pos} {n m : Int} {t' : Tok} (hn : nmAt sc x = some (i, .local)) (hv : at' vals i = some (.int n t')) (ht : EvF w A e sc B vals g₀ t (VI m))
    (h : ∀ g t'', Up g₀ g → BlF w A e sc B (setAt i (some (.int (n + m) t'')) vals) g rest P) (hl : i < vals.length := by simp [setAt]) : BlF w A e sc B vals g₀ (.AugAssign (.Name x p) .Add t pos :: rest) P :=
  BlF.augL (W := VI (n + m)) hn hv ht (fun g v ⟨_, hv⟩ s Q E k => by subst hv; exact iadd_int (k _ _ ⟨_, rfl⟩)) (fun g y u ⟨t'', e1⟩ => by subst e1; exact h g t'' u) hl
theorem BlF.decI {x : Str} {i : Nat} {t : Expr} {p : Pos} {n m : Int} {t' : Tok} (hn : nmAt sc x = some (i, .local)) (hv : at' vals i = some (.int n t')) (ht : EvF w A e sc B vals g₀ t (VI m))
    (h : ∀ g t'', Up g₀ g → BlF w A e sc B (setAt i (some (.int (n - m) t'')) vals) g rest P) (hl : i < vals.length := by simp [setAt]) : BlF w A e sc B vals g₀ (.AugAssign (.Name x p) .Sub t pos :: rest) P :=
  BlF.augL (W := VI (n - m)) hn hv ht (fun g v ⟨_, hv⟩ s Q E k => by subst hv; exact isub_int (k _ _ ⟨_, rfl⟩)) (fun g y u ⟨t'', e1⟩ => by subst e1; exact h g t'' u) hl
end

/-! ## a def's contract from its body -/
theorem gives_of {w : World} {a : Addr} {st : Stmt} {qual : Str} {n : Nat} {args : List Value} {P : Heap → Prop} {V : Heap → Value → Prop} (ns : List Str) {vals : List (Option Value)}
    (hP : ∀ g, P g → FnAt g a st qual ∧ g.NoLimit)
    (hb : ∀ fd : FuncData, fd.params = argsOf st → fd.defaults = .none → bindArgs fd ⟨args, []⟩ = pure (ns.zip args))
    (hk : ∀ x ∈ ns, (scopeOf st).names.lookup x = some .local ∨ (scopeOf st).names.lookup x = some .cell) (hnn : ((scopeOf st).names.map (·.1)).Nodup)
    (hfun : (scopeOf st).kind = .function ∧ (scopeOf st).isCoroutine = false ∧ (scopeOf st).isGenerator = false) (m : Nat) (hini : iniVals (scopeOf st) (ns.zip args) = vals ++ List.replicate m none)
    (body : ∀ A e B g, Room A n → EnvIs e (scopeOf st) → P g → BlF w A e (scopeOf st) B vals g (bodyOf st) (fun g' f _ => V g' (retOf f))) :
    Gives w (n + 1) (.ref a) args P V := .mk fun A s R hs g RA ug h0 h1 p k => by
  obtain ⟨hf, hl⟩ := hP g p
  refine enterE (B := ⟨s.heap, hs⟩) Up.rfl' ug h0 h1 (hf.up ug) RA (hl.keeps ug) hb (fun x hx => hk _ (List.of_mem_zip (a := x.1) (b := x.2) hx).1) hnn hfun m hini fun e h₁ tk u₁ _ RA' _ _ F => ?_
  refine wpAny_mono ((body (A.deeper e) e _ g RA' F.env p).run { s with heap := h₁, toks := tk } g (fun f s' => R (.ok (.ret (retOf f))) s') (fun _ _ => False) Up.rfl' F fun f g' h' tk' vals' ug' F' hv =>
    k _ g' h' tk' F'.keep ug' F'.vis F'.hoff hv) (fun _ _ q => q) fun _ _ q => q.elim
end Mine

end

section
open PySem PySem.W PyProof.Rows PySem.Calls
set_option Elab.async false
set_option linter.unusedVariables false
namespace Mine

def IsTup (g : Heap) (v : Value) (vs : List Value) : Prop := ∃ a, v = .ref a ∧ g.IsTuple a vs.toArray
def IsLst (g : Heap) (v : Value) (vs : List Value) : Prop := ∃ a, v = .ref a ∧ g.IsList a vs.toArray
theorem IsTup.up {g g' : Heap} {v vs} (x : IsTup g v vs) (u : Up g g') : IsTup g' v vs := let ⟨a, e, o, h, r⟩ := x; ⟨a, e, o, u _ _ h, r⟩
theorem IsLst.up {g g' : Heap} {v vs} (x : IsLst g v vs) (u : Up g g') : IsLst g' v vs := let ⟨a, e, o, h, r⟩ := x; ⟨a, e, o, u _ _ h, r⟩

theorem Fz.new {e : Env} {sc : Scope} {B : Base} {g h : Heap} {vals : List (Option Value)} (F : Fz e sc B g h vals) (o : Obj) (ho : o.isFreed = false) :
    ∃ g', Up g g' ∧ Fz e sc B g' (h.push o) vals ∧ g'.get? h.objs.size = some o := by
  have F' := F.push o
  obtain ⟨u, m⟩ := F'.max
  obtain ⟨n1, n2⟩ := F.fresh (b := h.objs.size) (Nat.le_refl _)
  exact ⟨_, u, m, seeAll_get (Heap.get?_push_size _ ho) n1 n2⟩

section
variable {w : World} {A : Around} {E : Value → Shared → Prop} {s : Shared} {e : Env} {sc : Scope} {B : Base} {g g₀ : Heap} {vals : List (Option Value)} {pos : Pos}

/-! ### displays -/
theorem EvF.tuple {ts : List Expr} {k : Nat} {V : Heap → List Value → Prop} (hV : ∀ g g' vs, Up g g' → V g vs → V g' vs) (hx : EvL w A e sc B vals g₀ pos ts V) (hl : ∀ g vs, V g vs → vs.length ≤ sizeLine) :
    EvF w A e sc B vals g₀ (.Tuple ts k pos) (fun g v => ∃ vs, IsTup g v vs ∧ V g vs) := .mk fun s g Q E u F h =>
  wpAny_Tuple (hx.run s g _ E u F fun vs g' h' tk u' ug F' hv => ⟨hl _ _ hv, by
    obtain ⟨g₂, ug₂, F₂, hg⟩ := F'.new { cls := .type "tuple", data := .seq vs.toArray } rfl
    exact h _ g₂ _ tk (u'.tr (Up.push _)) (ug.tr ug₂) F₂ ⟨vs, ⟨_, rfl, _, hg, rfl, _, rfl⟩, hV _ _ _ ug₂ hv⟩⟩)
theorem EvF.list {ts : List Expr} {V : Heap → List Value → Prop} (hV : ∀ g g' vs, Up g g' → V g vs → V g' vs) (hx : EvL w A e sc B vals g₀ pos ts V) (hl : ∀ g vs, V g vs → vs.length ≤ sizeLine) :
    EvF w A e sc B vals g₀ (.List ts pos) (fun g v => ∃ vs, IsLst g v vs ∧ V g vs) := .mk fun s g Q E u F h =>
  wpAny_List (hx.run s g _ E u F fun vs g' h' tk u' ug F' hv => ⟨hl _ _ hv, by
    obtain ⟨g₂, ug₂, F₂, hg⟩ := F'.new { cls := .type "list", data := .seq vs.toArray } rfl
    exact h _ g₂ _ tk (u'.tr (Up.push _)) (ug.tr ug₂) F₂ ⟨vs, ⟨_, rfl, _, hg, rfl, _, rfl⟩, hV _ _ _ ug₂ hv⟩⟩)

/-! ### bools as values -/
theorem EvF.and1 {x : Expr} {V : Heap → Value → Prop} (h : EvF w A e sc B vals g₀ x V) : EvF w A e sc B vals g₀ (.BoolOp .And [x] pos) V := .mk fun s g Q E u F k => BoolOp_one (h.run s g Q E u F k)
theorem EvF.or1 {x : Expr} {V : Heap → Value → Prop} (h : EvF w A e sc B vals g₀ x V) : EvF w A e sc B vals g₀ (.BoolOp .Or [x] pos) V := .mk fun s g Q E u F k => BoolOp_one (h.run s g Q E u F k)
theorem EvF.andB {x y : Expr} {rest : List Expr} {b c : Bool} (hx : EvF w A e sc B vals g₀ x (VB b)) (hr : b = true → EvF w A e sc B vals g₀ (.BoolOp .And (y :: rest) pos) (VB c)) :
    EvF w A e sc B vals g₀ (.BoolOp .And (x :: y :: rest) pos) (VB (b && c)) := .mk fun s g Q E u F k =>
  BoolOp_and (hx.run s g _ E u F fun v g' h' tk u' ug F' hv => by
    subst hv
    refine wpAny_truthy_bool ?_
    cases b with
    | true => exact (hr rfl).run { s with heap := h', toks := tk } g' Q E (u.tr ug) F' fun v g'' h'' tk' u'' ug' F'' hv => k v g'' h'' tk' (u'.tr u'') (ug.tr ug') F'' hv
    | false => exact k _ g' h' tk u' ug F' rfl)
theorem EvF.orB {x y : Expr} {rest : List Expr} {b c : Bool} (hx : EvF w A e sc B vals g₀ x (VB b)) (hr : b = false → EvF w A e sc B vals g₀ (.BoolOp .Or (y :: rest) pos) (VB c)) :
    EvF w A e sc B vals g₀ (.BoolOp .Or (x :: y :: rest) pos) (VB (b || c)) := .mk fun s g Q E u F k =>
  BoolOp_or (hx.run s g _ E u F fun v g' h' tk u' ug F' hv => by
    subst hv
    refine wpAny_truthy_bool ?_
    cases b with
    | false => exact (hr rfl).run { s with heap := h', toks := tk } g' Q E (u.tr ug) F' fun v g'' h'' tk' u'' ug' F'' hv => k v g'' h'' tk' (u'.tr u'') (ug.tr ug') F'' hv
    | true => exact k _ g' h' tk u' ug F' rfl)
theorem EvF.ifE {t x y : Expr} {b : Bool} {V : Heap → Value → Prop} (ht : TsF w A e sc B vals g₀ t b) (hx : b = true → EvF w A e sc B vals g₀ x V) (hy : b = false → EvF w A e sc B vals g₀ y V) :
    EvF w A e sc B vals g₀ (.IfExp t x y pos) V := .mk fun s g Q E u F k =>
  IfExp_ (ht.run s g _ E u F fun g' h' tk u' ug F' => by
    cases b with
    | true => exact (hx rfl).run { s with heap := h', toks := tk } g' Q E (u.tr ug) F' fun v g'' h'' tk' u'' ug' F'' hv => k v g'' h'' tk' (u'.tr u'') (ug.tr ug') F'' hv
    | false => exact (hy rfl).run { s with heap := h', toks := tk } g' Q E (u.tr ug) F' fun v g'' h'' tk' u'' ug' F'' hv => k v g'' h'' tk' (u'.tr u'') (ug.tr ug') F'' hv)
theorem EvF.leT1 {l r : Expr} {a b : Nat} (hl : EvF w A e sc B vals g₀ l (VT [a])) (hr : EvF w A e sc B vals g₀ r (VT [b])) (hm : behindInMarks .LtE r = false := by with_unfolding_all rfl) : EvF w A e sc B vals g₀ (.Compare l [.LtE] [r] pos) (VB (decide (a ≤ b))) := by
  have : EvF w A e sc B vals g₀ (.Compare l [.LtE] [r] pos) (VB (!decide ((T [b]).cps.toList < (T [a]).cps.toList))) :=
    EvF.cmp hl (fun _ _ _ _ x => x) hr (fun _ _ _ _ ⟨_, hv⟩ ⟨_, hu⟩ s _ _ _ h => by subst hv hu; exact P.le_str (h s.toks)) hm
  rw [T_cps, T_cps] at this
  have e : (!decide ([b] < [a])) = decide (a ≤ b) := by
    have : ([b] < [a]) ↔ b < a := by simp [List.cons_lt_cons_iff]
    by_cases h : a ≤ b
    · rw [decide_eq_false (fun z => absurd (this.mp z) (by omega)), decide_eq_true h]; rfl
    · rw [decide_eq_true (this.mpr (by omega)), decide_eq_false h]; rfl
  rwa [e] at this
theorem EvF.eqT {l r : Expr} {a b : List Nat} (hl : EvF w A e sc B vals g₀ l (VT a)) (hr : EvF w A e sc B vals g₀ r (VT b)) (hm : behindInMarks .Eq r = false := by with_unfolding_all rfl) : EvF w A e sc B vals g₀ (.Compare l [.Eq] [r] pos) (VB (a == b)) := by
  rw [← T_eq]
  exact EvF.cmp hl (fun _ _ _ _ x => x) hr (fun _ _ _ _ ⟨_, hv⟩ ⟨_, hu⟩ s _ _ _ h => by subst hv hu; exact eq_str (h s.toks)) hm
theorem EvF.neT {l r : Expr} {a b : List Nat} (hl : EvF w A e sc B vals g₀ l (VT a)) (hr : EvF w A e sc B vals g₀ r (VT b)) (hm : behindInMarks .NotEq r = false := by with_unfolding_all rfl) : EvF w A e sc B vals g₀ (.Compare l [.NotEq] [r] pos) (VB (a != b)) := by
  rw [← T_ne]
  exact EvF.cmp hl (fun _ _ _ _ x => x) hr (fun _ _ _ _ ⟨_, hv⟩ ⟨_, hu⟩ s _ _ _ h => by subst hv hu; exact ne_str (h s.toks)) hm
theorem EvF.eqI {l r : Expr} {a b : Int} (hl : EvF w A e sc B vals g₀ l (VI a)) (hr : EvF w A e sc B vals g₀ r (VI b)) (hm : behindInMarks .Eq r = false := by with_unfolding_all rfl) : EvF w A e sc B vals g₀ (.Compare l [.Eq] [r] pos) (VB (a == b)) :=
  EvF.cmp hl (fun _ _ _ _ x => x) hr (fun _ _ _ _ ⟨_, hv⟩ ⟨_, hu⟩ s _ _ _ h => by subst hv hu; exact eq_int (h s.toks)) hm
theorem EvF.gtI {l r : Expr} {a b : Int} (hl : EvF w A e sc B vals g₀ l (VI a)) (hr : EvF w A e sc B vals g₀ r (VI b)) (hm : behindInMarks .Gt r = false := by with_unfolding_all rfl) : EvF w A e sc B vals g₀ (.Compare l [.Gt] [r] pos) (VB (decide (b < a))) :=
  EvF.cmp hl (fun _ _ _ _ x => x) hr (fun _ _ _ _ ⟨_, hv⟩ ⟨_, hu⟩ s _ _ _ h => by subst hv hu; exact P.gt_int (h s.toks)) hm
theorem EvF.ltI {l r : Expr} {a b : Int} (hl : EvF w A e sc B vals g₀ l (VI a)) (hr : EvF w A e sc B vals g₀ r (VI b)) (hm : behindInMarks .Lt r = false := by with_unfolding_all rfl) : EvF w A e sc B vals g₀ (.Compare l [.Lt] [r] pos) (VB (decide (a < b))) :=
  EvF.cmp hl (fun _ _ _ _ x => x) hr (fun _ _ _ _ ⟨_, hv⟩ ⟨_, hu⟩ s _ _ _ h => by subst hv hu; exact lt_int (h s.toks)) hm

/-! ### natural numbers -/
theorem EvF.num (n : Nat) {i : Int} {k : Nat} (h : i = (n : Int) := by rfl) : EvF w A e sc B vals g₀ (.Constant (.int i) k pos) (VN n) := by subst h; exact EvF.int
theorem TsF.ltN {l r : Expr} {a b : Nat} (hl : EvF w A e sc B vals g₀ l (VN a)) (hr : EvF w A e sc B vals g₀ r (VN b)) (hm : behindInMarks .Lt r = false := by with_unfolding_all rfl) : TsF w A e sc B vals g₀ (.Compare l [.Lt] [r] pos) (decide (a < b)) := by
  have := TsF.ltI (pos := pos) hl hr hm; rwa [show decide ((a : Int) < (b : Int)) = decide (a < b) by simp] at this
theorem TsF.gtN {l r : Expr} {a b : Nat} (hl : EvF w A e sc B vals g₀ l (VN a)) (hr : EvF w A e sc B vals g₀ r (VN b)) (hm : behindInMarks .Gt r = false := by with_unfolding_all rfl) : TsF w A e sc B vals g₀ (.Compare l [.Gt] [r] pos) (decide (b < a)) := by
  have := TsF.gtI (pos := pos) hl hr hm; rwa [show decide ((b : Int) < (a : Int)) = decide (b < a) by simp] at this
theorem TsF.geN {l r : Expr} {a b : Nat} (hl : EvF w A e sc B vals g₀ l (VN a)) (hr : EvF w A e sc B vals g₀ r (VN b)) (hm : behindInMarks .GtE r = false := by with_unfolding_all rfl) : TsF w A e sc B vals g₀ (.Compare l [.GtE] [r] pos) (decide (b ≤ a)) := by
  have := TsF.geI (pos := pos) hl hr hm; rwa [show decide ((b : Int) ≤ (a : Int)) = decide (b ≤ a) by simp] at this
theorem TsF.eqN {l r : Expr} {a b : Nat} (hl : EvF w A e sc B vals g₀ l (VN a)) (hr : EvF w A e sc B vals g₀ r (VN b)) (hm : behindInMarks .Eq r = false := by with_unfolding_all rfl) : TsF w A e sc B vals g₀ (.Compare l [.Eq] [r] pos) (a == b) := by
  have := TsF.eqI (pos := pos) hl hr hm; rwa [show ((a : Int) == (b : Int)) = (a == b) by
    by_cases h : a = b
    · subst h; simp
    · rw [beq_eq_false_iff_ne.mpr h, beq_eq_false_iff_ne.mpr (fun z => h (by omega))]] at this
theorem EvF.eqN {l r : Expr} {a b : Nat} (hl : EvF w A e sc B vals g₀ l (VN a)) (hr : EvF w A e sc B vals g₀ r (VN b)) (hm : behindInMarks .Eq r = false := by with_unfolding_all rfl) : EvF w A e sc B vals g₀ (.Compare l [.Eq] [r] pos) (VB (a == b)) := by
  have := EvF.eqI (pos := pos) hl hr hm; rwa [show ((a : Int) == (b : Int)) = (a == b) by
    by_cases h : a = b
    · subst h; simp
    · rw [beq_eq_false_iff_ne.mpr h, beq_eq_false_iff_ne.mpr (fun z => h (by omega))]] at this
theorem EvF.gtN {l r : Expr} {a b : Nat} (hl : EvF w A e sc B vals g₀ l (VN a)) (hr : EvF w A e sc B vals g₀ r (VN b)) (hm : behindInMarks .Gt r = false := by with_unfolding_all rfl) : EvF w A e sc B vals g₀ (.Compare l [.Gt] [r] pos) (VB (decide (b < a))) := by
  have := EvF.gtI (pos := pos) hl hr hm; rwa [show decide ((b : Int) < (a : Int)) = decide (b < a) by simp] at this
theorem EvF.ltN {l r : Expr} {a b : Nat} (hl : EvF w A e sc B vals g₀ l (VN a)) (hr : EvF w A e sc B vals g₀ r (VN b)) (hm : behindInMarks .Lt r = false := by with_unfolding_all rfl) : EvF w A e sc B vals g₀ (.Compare l [.Lt] [r] pos) (VB (decide (a < b))) := by
  have := EvF.ltI (pos := pos) hl hr hm; rwa [show decide ((a : Int) < (b : Int)) = decide (a < b) by simp] at this
theorem EvF.addN {l r : Expr} {a b : Nat} (hl : EvF w A e sc B vals g₀ l (VN a)) (hr : EvF w A e sc B vals g₀ r (VN b)) : EvF w A e sc B vals g₀ (.BinOp l .Add r pos) (VN (a + b)) := by
  have := EvF.addI (pos := pos) hl hr; rwa [show ((a : Int) + (b : Int)) = ((a + b : Nat) : Int) by omega] at this
theorem EvF.subN {l r : Expr} {a b : Nat} (hl : EvF w A e sc B vals g₀ l (VN a)) (hr : EvF w A e sc B vals g₀ r (VN b)) (h : b ≤ a) : EvF w A e sc B vals g₀ (.BinOp l .Sub r pos) (VN (a - b)) := by
  have := EvF.subI (pos := pos) hl hr; rwa [show ((a : Int) - (b : Int)) = ((a - b : Nat) : Int) by omega] at this
theorem EvF.mulN {l r : Expr} {a b : Nat} (hl : EvF w A e sc B vals g₀ l (VN a)) (hr : EvF w A e sc B vals g₀ r (VN b)) (hok : IntMulOk (a : Int) (b : Int)) : EvF w A e sc B vals g₀ (.BinOp l .Mult r pos) (VN (a * b)) := by
  have := EvF.mulI (pos := pos) hl hr hok; rwa [show ((a : Int) * (b : Int)) = ((a * b : Nat) : Int) by simp] at this
theorem EvF.modN {l r : Expr} {a b : Nat} (hl : EvF w A e sc B vals g₀ l (VN a)) (hr : EvF w A e sc B vals g₀ r (VN b)) (hb : 0 < b) : EvF w A e sc B vals g₀ (.BinOp l .Mod r pos) (VN (a % b)) := by
  have := EvF.modI (pos := pos) hl hr (by omega); rwa [show ((a : Int) % (b : Int)) = ((a % b : Nat) : Int) by simp] at this
theorem EvF.divN {l r : Expr} {a b : Nat} (hl : EvF w A e sc B vals g₀ l (VN a)) (hr : EvF w A e sc B vals g₀ r (VN b)) (hb : 0 < b) (hb2 : b < 1073741824) : EvF w A e sc B vals g₀ (.BinOp l .FloorDiv r pos) (VN (a / b)) := by
  have := EvF.divI (pos := pos) hl hr (by omega) (by omega); rwa [show ((a : Int) / (b : Int)) = ((a / b : Nat) : Int) by simp] at this

/-! ### cuts -/
theorem EvF.cut {v : Expr} {lo hi : Expr} {p : Pos} {x : List Nat} {i j : Nat} (hv : EvF w A e sc B vals g₀ v (VT x)) (hl : EvF w A e sc B vals g₀ lo (VN i)) (hu : EvF w A e sc B vals g₀ hi (VN j)) (hx : x.length ≤ sizeLine)
    (h1 : i ≤ j) (h2 : j ≤ x.length) (ht : ∀ o r, letTemporaryGo v o r = pure () := by intro _ _; rfl) : EvF w A e sc B vals g₀ (.Subscript v (.Slice (some lo) (some hi) Option.none p) pos) (VT ((x.drop i).take (j - i))) :=
  EvF.sliceT hv (EvP.val hl) (EvP.val hu) hx (by rw [T_slice (by omega) (by omega) (by omega)]; congr 2; omega) ht
theorem EvF.cutTo {v : Expr} {hi : Expr} {p : Pos} {x : List Nat} {j : Nat} (hv : EvF w A e sc B vals g₀ v (VT x)) (hu : EvF w A e sc B vals g₀ hi (VN j)) (hx : x.length ≤ sizeLine)
    (ht : ∀ o r, letTemporaryGo v o r = pure () := by intro _ _; rfl) : EvF w A e sc B vals g₀ (.Subscript v (.Slice Option.none (some hi) Option.none p) pos) (VT (x.take j)) :=
  EvF.sliceT hv EvP.nil (EvP.val hu) hx (by rw [T_to (by omega)]; rfl) ht
theorem EvF.cutFrom {v : Expr} {lo : Expr} {p : Pos} {x : List Nat} {i : Nat} (hv : EvF w A e sc B vals g₀ v (VT x)) (hl : EvF w A e sc B vals g₀ lo (VN i)) (hx : x.length ≤ sizeLine)
    (ht : ∀ o r, letTemporaryGo v o r = pure () := by intro _ _; rfl) : EvF w A e sc B vals g₀ (.Subscript v (.Slice (some lo) Option.none Option.none p) pos) (VT (x.drop i)) :=
  EvF.sliceT hv (EvP.val hl) EvP.nil hx (by rw [T_from (by omega)]; rfl) ht

/-! ### ints of texts -/
theorem EvF.intT {f : Str} {p : Pos} {t : Expr} {x : List Nat} (hf : EvF w A e sc B vals g₀ (.Name f p) (fun _ v => v = .type "int")) (ha : EvF w A e sc B vals g₀ t (VT x)) (hx : x.length ≤ 640) (hd : NumText.AllDigits x) (hn : x ≠ [])
    (he : starEach [t] e = (false, eval t e) :: starEach [] e := by rfl) (hp : (backTo pos (starEach [t] e)).any (·.1) = false := by rfl) :
    EvF w A e sc B vals g₀ (.Call (.Name f p) [t] [] pos) (VN (NumText.digitsVal x)) :=
  EvF.callT hf (EvL.one ha Mono.vs he) (fun g vs _ ⟨v, e1, t, e2⟩ s Q E F k => by
    subst e1 e2
    refine KIN.call_text (n := (NumText.digitsVal x : Int)) ?_ (by rw [T_len]; exact hx) (k _ g s.heap _ Up.rfl' Up.rfl' F ⟨_, rfl⟩)
    have h := intText_digits (x := T x) (by rw [T_cps]; exact hd) (by rw [T_cps]; exact hn) (by rw [T_len]; omega)
    rw [T_cps] at h
    exact h) hp
end
end Mine

end

section
open PySem PySem.W PyProof.Rows PySem.Calls
set_option Elab.async false
set_option linter.unusedVariables false
namespace Mine

theorem Up.none {h h' : Heap} (u : Up h h') {b : Addr} (x : h'.get? b = none) : h.get? b = none := by
  cases e : h.get? b with
  | none => rfl
  | some o => rw [u b o e] at x; cases x
theorem ns_at {h h' : Heap} {a : Addr} {m} (n : h.Ns a m) (k : ∀ o, h.get? a = some o → h'.get? a = some o) : h'.Ns a m := let ⟨o, es, ep, x, r⟩ := n; ⟨o, es, ep, k _ x, r⟩
theorem cell_at {h h' : Heap} {a : Addr} {m} (n : h.IsCell a m) (k : ∀ o, h.get? a = some o → h'.get? a = some o) : h'.IsCell a m := let ⟨o, x, r⟩ := n; ⟨o, k _ x, r⟩

section
variable {e : Env} {sc : Scope} {B : Base} {g h h' : Heap} {vals : List (Option Value)} {I : Addr}
theorem Fz.but (F : Fz e sc B g h vals) (hm : I ∉ mutOf e) (hh : I ∉ B.hid ∨ h'.get? I ≠ none) (hb : B.h.get? I = none) (hg : g.get? I = none) (k : ∀ b o, b ≠ I → h.get? b = some o → h'.get? b = some o) : Fz e sc B g h' vals := by
  have pr : ∀ b, b ≠ I → h.get? b ≠ none → h'.get? b ≠ none := fun b hb x => by
    cases z : h.get? b with
    | none => exact absurd z x
    | some o => rw [k b o hb z]; exact fun w => by cases w
  have ne : ∀ b ∈ mutOf e, b ≠ I := fun b m z => hm (z ▸ m)
  exact ⟨F.env, let ⟨ml, n, r⟩ := F.ns; ⟨ml, ns_at n fun o => k _ o (ne _ Fz.locals_mem), r⟩, fun x i hx => let ⟨c, hc, q⟩ := F.cell x i hx; ⟨c, hc, cell_at q fun o => k _ o (ne _ (cell_mem hc))⟩,
    fun b o x => k b o (fun z => by rw [z, hb] at x; cases x) (F.keep b o x), fun b o x => k b o (fun z => by rw [z, hg] at x; cases x) (F.vis b o x), F.off, F.goff, F.hoff,
    fun b m => (by
      by_cases z : b = I
      · subst z; exact hh.elim (fun n => absurd m n) id
      · exact pr b z (F.hin b m)), fun b m => pr b (ne b m) (F.min b m), F.nd⟩
theorem Fz.addHid (F : Fz e sc B g h vals) (hg : g.get? I = none) (hi : h.get? I ≠ none) : Fz e sc ⟨B.h, I :: B.hid⟩ g h vals :=
  ⟨F.env, F.ns, F.cell, F.keep, F.vis, F.off, F.goff, fun b m => by
    rcases List.mem_cons.mp m with rfl | m
    · exact hg
    · exact F.hoff b m, fun b m => by
    rcases List.mem_cons.mp m with rfl | m
    · exact hi
    · exact F.hin b m, F.min, F.nd⟩
theorem Fz.delHid (F : Fz e sc ⟨B.h, I :: B.hid⟩ g h vals) : Fz e sc B g h vals ∧ g.get? I = none :=
  ⟨⟨F.env, F.ns, F.cell, F.keep, F.vis, F.off, F.goff, fun b m => F.hoff b (.tail _ m), fun b m => F.hin b (.tail _ m), F.min, F.nd⟩, F.hoff I (.head _)⟩
end

section
variable {w : World} {A : Around} {E : Value → Shared → Prop} {s : Shared} {e : Env} {sc : Scope} {B : Base} {g g₀ : Heap} {vals : List (Option Value)} {pos : Pos} {rest : List Stmt} {P : PostT}

/-- a for loop: its iterator stands apart -/
theorem forLoop_core {target : Expr} {body : List Stmt} {I : Addr} {fp : List Addr} {n : Nat} {Pv : Nat → Value → Prop} {St : Nat → Heap → Prop} {R : Result → Shared → Prop} (W : Walks pw w A I fp [I] n Pv St)
    (hpres : ∀ i h, St i h → h.get? I ≠ none) (hIm : I ∉ mutOf e) (hIh : I ∉ B.hid) (hBI : B.h.get? I = none) (hfp : ∀ b ∈ fp, b ∉ mutOf e)
    (J : Nat → Heap → Heap → List (Option Value) → Prop) (PB : Flow → Heap → Heap → List (Option Value) → Prop)
    (hJ : ∀ i g h h' v, J i g h v → (∀ b o, b ≠ I → h.get? b = some o → h'.get? b = some o) → J i g h' v)
    (turn : ∀ i x g v (s' : Shared) B', (∃ h tk, s' = { s with heap := h, toks := tk }) → i < n → Pv i x → B'.hid = I :: B.hid → (∀ b, B'.h.get? b ≠ none → b ∈ fp ∨ B.h.get? b ≠ none) → Up B.h B'.h → Up g₀ g → Fz e sc B' g s'.heap v → J i g s'.heap v → St (i + 1) s'.heap →
      (∀ x s', (notedBy (model pw w) A e fun e s' => R (.error e) s') x s' → (notedBy (model pw w) A e fun e s' => R (.error e) s') x s') →
      wpAny (model pw w) A (letOwnedTupleGo target (.ref I) x) (fun _ s₁ => wpAny (model pw w) A (assign target e x) (fun _ s₂ => wpAny (model pw w) A (execs body e)
        (fun f s₃ => ∃ g' h' tk v', s₃ = { s' with heap := h', toks := tk } ∧ Up g g' ∧ Fz e sc B' g' h' v' ∧ (match f with | .next | .cont => J (i + 1) g' h' v' | .brk => PB .next g' h' v' | .ret y => PB (.ret y) g' h' v'))
        (notedBy (model pw w) A e fun e s' => R (.error e) s') s₂) (notedBy (model pw w) A e fun e s' => R (.error e) s') s₁) (notedBy (model pw w) A e fun e s' => R (.error e) s') s')
    (done : ∀ g h h' v, Up g₀ g → J n g h v → (∀ b o, b ≠ I → h.get? b = some o → h'.get? b = some o) → PB .next g h' v)
    (hR : ∀ f g h tk v, Up g₀ g → Fz e sc B g h v → PB f g h v → R (.ok f) { s with heap := h, toks := tk })
    (F : Fz e sc B g s.heap vals) (hg0 : Up g₀ g) (hgI : g.get? I = none) (h0 : J 0 g s.heap vals) (hst : St 0 s.heap) :
    codeAny (model pw w) A (.forLoop target (.ref I) body [] e) R s := by
  refine codeAny_forLoop_any (fun k s' => ∃ i g' h tk v, s' = { s with heap := h, toks := tk } ∧ k = n - i ∧ i ≤ n ∧ Up g₀ g' ∧ Fz e sc B g' h v ∧ g'.get? I = none ∧ J i g' h v ∧ St i h) ?_ n ⟨0, g, s.heap, s.toks, vals, rfl, rfl, Nat.zero_le _, hg0, F, hgI, h0, hst⟩
  rintro k s' ⟨i, g', h, tk, v, rfl, rfl, hin, ug, F, hgI, hj, st⟩
  by_cases hi : i < n
  · refine W.item i { s with heap := h, toks := tk } _ _ hi st fun x h₁ tk₁ px st₁ k₁ => ?_
    have k₁' : ∀ b o, b ≠ I → h.get? b = some o → h₁.get? b = some o := fun b o hb => k₁ b o (by simpa using hb)
    have F₁ := F.but hIm (.inl hIh) hBI hgI k₁'
    have F₂ := F₁.addHid hgI (hpres _ _ st₁)
    obtain ⟨B', e1, e2, F₃, hall, hno⟩ := F₂.rebase fp hfp
    refine wpAny_mono (turn i x g' v { s with heap := h₁, toks := tk₁ } B' ⟨_, _, rfl⟩ hi px e1 hno e2 ug F₃ (hJ i g' h h₁ v hj k₁') st₁ fun _ _ q => q) (fun _ s₁ q => wpAny_mono q (fun _ s₂ q => wpAny_mono q (fun f s₃ q => ?_) fun _ _ q => q) fun _ _ q => q) fun _ _ q => q
    obtain ⟨g₂, h₂, tk₂, v₂, rfl, ug₂, F₄, p⟩ := q
    obtain ⟨F₅, hgI₂⟩ := (F₄.base e2 e1).delHid
    have st₂ : St (i + 1) h₂ := W.frame _ _ _ st₁ fun b hb o z => F₄.keep b o (hall b hb o z)
    cases f with
    | next => exact ⟨n - (i + 1), by omega, i + 1, g₂, h₂, tk₂, v₂, rfl, rfl, hi, ug.tr ug₂, F₅, hgI₂, p, st₂⟩
    | cont => exact ⟨n - (i + 1), by omega, i + 1, g₂, h₂, tk₂, v₂, rfl, rfl, hi, ug.tr ug₂, F₅, hgI₂, p, st₂⟩
    | brk => exact hR .next g₂ h₂ tk₂ v₂ (ug.tr ug₂) F₅ p
    | ret y => exact hR (.ret y) g₂ h₂ tk₂ v₂ (ug.tr ug₂) F₅ p
  · have : i = n := by omega
    subst this
    refine W.done { s with heap := h, toks := tk } _ _ st fun h₁ tk₁ k₁ => wpAny_execs_nil ?_
    have k₁' : ∀ b o, b ≠ I → h.get? b = some o → h₁.get? b = some o := fun b o hb => k₁ b o (by simpa using hb)
    exact hR .next g' h₁ tk₁ v ug (F.but hIm (.inl hIh) hBI hgI k₁') (done g' h h₁ v ug hj k₁')

/-- how a loop's target is set -/
structure AsF (w : World) (A : Around) (e : Env) (sc : Scope) (vals : List (Option Value)) (g₀ : Heap) (target : Expr) (x : Value) (vals' : List (Option Value)) : Prop where
  run : ∀ (B : Base) (s : Shared) (g : Heap) (Q : Unit → Shared → Prop) (E : Value → Shared → Prop), Up g₀ g → Fz e sc B g s.heap vals →
    (∀ h' tk, Fz e sc B g h' vals' → Q () { s with heap := h', toks := tk }) → wpAny (model pw w) A (assign target e x) Q E s
theorem AsF.name {y : Str} {i : Nat} {p : Pos} {x : Value} (hn : nmAt sc y = some (i, .local)) (hl : i < vals.length) : AsF w A e sc vals g₀ (.Name y p) x (setAt i (some x) vals) := .mk fun B s g Q E u F k =>
  wpAny_assign_Name (stL F hn hl fun h' tk F' _ _ => k h' tk F')

/-- a for loop over what the walk gives -/
theorem for_walk {target : Expr} {body : List Stmt} {o : Obj} {fp : List Addr} {n : Nat} {Pv : Nat → Value → Prop} {St : Nat → Heap → Prop} {E : Value → Shared → Prop} {Q : Flow → Shared → Prop} (hA : A.handled = none)
    (W : Walks pw w A s.heap.objs.size fp [s.heap.objs.size] n Pv St) (hpres : ∀ i h, St i h → h.get? s.heap.objs.size ≠ none) (hfp : ∀ b ∈ fp, b = s.heap.objs.size ∨ b ∉ mutOf e) (ho : o.isFreed = false)
    (J : Nat → Heap → List (Option Value) → Prop)
    (hgo : ∀ i x (s' : Shared) (Q : Unit → Shared → Prop) E, Pv i x → St (i + 1) s'.heap → Q () s' → wpAny (model pw w) A (letOwnedTupleGo target (.ref s.heap.objs.size) x) Q E s')
    (turn : ∀ i x g v, i < n → Pv i x → Up g₀ g → J i g v → ∃ v', AsF w A e sc v g target x v' ∧ ∀ B', BlF w A e sc B' v' g body (fun g' f v' => match f with | .next | .cont => J (i + 1) g' v' | .brk => P g' .next v' | .ret y => P g' (.ret y) v'))
    (done : ∀ g v, Up g₀ g → J n g v → P g .next v)
    (F : Fz e sc B g s.heap vals) (hg0 : Up g₀ g) (h0 : J 0 g vals) (hst : St 0 (s.heap.push o))
    (k : ∀ f g' h' tk vals', Up g g' → Fz e sc B g' h' vals' → P g' f vals' → Q f { s with heap := h', toks := tk }) :
    codeAny (model pw w) A (.forLoop target (.ref s.heap.objs.size) body [] e) (fun r s' => match r with | .ok f => Q f s' | .error x => cameBackBy (model pw w) A e E x s') { s with heap := s.heap.push o } := by
  obtain ⟨n1, n2⟩ := F.fresh (b := s.heap.objs.size) (Nat.le_refl _)
  have nb : B.h.get? s.heap.objs.size = none := F.keep.none (Heap.get?_none_of_le (Nat.le_refl _))
  have ng : g.get? s.heap.objs.size = none := F.vis.none (Heap.get?_none_of_le (Nat.le_refl _))
  refine forLoop_core (s := { s with heap := s.heap.push o }) (g₀ := g) (vals := vals) (B := B) (sc := sc) W hpres n1 n2 nb (fun b hb => (hfp b hb).elim (fun z => z ▸ n1) id)
    (fun i g _ v => J i g v) (fun f g _ v => P g f v) (fun _ _ _ _ _ j _ => j) ?_ (fun g' h h' v u j _ => done g' v (hg0.tr u) j) (fun f g' h' tk v u F' p => k f g' h' tk v u F' p) (F.push o) Up.rfl' ng h0 hst
  · intro i x g' v s' B' _ hi px hB hall _ ug F' hj st _
    refine hgo i x s' _ _ px st ?_
    obtain ⟨v', ha, hb⟩ := turn i x g' v hi px (hg0.tr ug) hj
    refine ha.run B' s' g' _ _ Up.rfl' F' fun h₁ tk₁ F₁ => ?_
    refine (hb B').run { s' with heap := h₁, toks := tk₁ } g' _ _ Up.rfl' F₁ fun f g₂ h₂ tk₂ v₂ ug₂ F₂ p => ?_
    refine ⟨g₂, h₂, tk₂, v₂, rfl, ug₂, F₂, ?_⟩
    cases f <;> exact p

/-- what a for loop may run over -/
structure Iter (w : World) (target : Expr) (g : Heap) (v : Value) (n : Nat) (Pv : Nat → Value → Prop) : Prop where
  run : ∀ (A : Around) (s : Shared) (Q E : Value → Shared → Prop), A.handled = none → Up g s.heap →
    (∀ (o : Obj) (fp : List Addr) (St : Nat → Heap → Prop), o.isFreed = false → Walks pw w A s.heap.objs.size fp [s.heap.objs.size] n Pv St → (∀ i h, St i h → h.get? s.heap.objs.size ≠ none) → (∀ b ∈ fp, b = s.heap.objs.size ∨ g.get? b ≠ none) →
      (∀ i x (s' : Shared) (Q : Unit → Shared → Prop) E, Pv i x → St (i + 1) s'.heap → Q () s' → wpAny (model pw w) A (letOwnedTupleGo target (.ref s.heap.objs.size) x) Q E s') → St 0 (s.heap.push o) →
      Q (.ref s.heap.objs.size) { s with heap := s.heap.push o }) → wpAny (model pw w) A (pyIter v) Q E s

theorem iter_in {h : Heap} {a l : Addr} {i : Nat} (x : h.IsListIter a l i) : h.get? a ≠ none := let ⟨_, y, _⟩ := x; fun z => by rw [y] at z; cases z
theorem titer_in {h : Heap} {a l : Addr} {i : Nat} (x : h.IsTupleIter a l i) : h.get? a ≠ none := let ⟨_, y, _⟩ := x; fun z => by rw [y] at z; cases z
theorem Iter.list {w : World} {x : Str} {p : Pos} {g : Heap} {v : Value} {vs : List Value} (h : IsLst g v vs) : Iter w (.Name x p) g v vs.length (fun i v => vs[i]? = some v) := .mk fun A s Q E hA u k => by
  obtain ⟨a, rfl, hl⟩ := h
  have hl' : s.heap.IsList a vs.toArray := let ⟨o, ho, r⟩ := hl; ⟨o, u _ _ ho, r⟩
  have hne : a ≠ s.heap.objs.size := by obtain ⟨o, ho, _⟩ := hl'; exact Nat.ne_of_lt (Heap.lt_size ho)
  refine wpAny_pyIter_list hl' ?_
  have W := Walks.list (prog := pw) (w := w) (A := A) hA s.heap.objs.size a hne vs.toArray
  rw [show vs.toArray.size = vs.length from List.size_toArray] at W
  simp only [List.getElem?_toArray] at W
  refine k _ _ _ rfl W (fun i h st => iter_in st.1) (fun b hb => ?_) (fun i x s' Q E _ _ q => wpAny_of_eq (a := ()) rfl q) ⟨⟨_, Heap.get?_push_size _ rfl, rfl, rfl⟩, hl'.push _⟩
  rcases List.mem_cons.mp hb with rfl | hb
  · exact .inl rfl
  · rw [List.mem_singleton] at hb
    subst hb
    obtain ⟨o, ho, _⟩ := hl
    exact .inr fun z => by rw [ho] at z; cases z
theorem Iter.listT {w : World} {ts : List Expr} {j : Nat} {p : Pos} {g : Heap} {v : Value} {vs : List Value} (h : IsLst g v vs) (hr : ∀ x ∈ vs, ∃ a, x = .ref a) : Iter w (.Tuple ts j p) g v vs.length (fun i v => vs[i]? = some v) := .mk fun A s Q E hA u k => by
  obtain ⟨a, rfl, hl⟩ := h
  have hl' : s.heap.IsList a vs.toArray := let ⟨o, ho, r⟩ := hl; ⟨o, u _ _ ho, r⟩
  have hne : a ≠ s.heap.objs.size := by obtain ⟨o, ho, _⟩ := hl'; exact Nat.ne_of_lt (Heap.lt_size ho)
  refine wpAny_pyIter_list hl' ?_
  have W := Walks.list (prog := pw) (w := w) (A := A) hA s.heap.objs.size a hne vs.toArray
  rw [show vs.toArray.size = vs.length from List.size_toArray] at W
  simp only [List.getElem?_toArray] at W
  refine k _ _ _ rfl W (fun i h st => iter_in st.1) (fun b hb => ?_) (fun i x s' Q E hx st q => ?_) ⟨⟨_, Heap.get?_push_size _ rfl, rfl, rfl⟩, hl'.push _⟩
  · rcases List.mem_cons.mp hb with rfl | hb
    · exact .inl rfl
    · rw [List.mem_singleton] at hb
      subst hb
      obtain ⟨o, ho, _⟩ := hl
      exact .inr fun z => by rw [ho] at z; cases z
  · obtain ⟨T', rfl⟩ := hr x (List.mem_of_getElem? hx)
    exact wpAny_letOwnedTupleGo_listiter st.1 q
theorem siter_in {h : Heap} {a : Addr} {c x t i} (y : h.IsStrIter a c x t i) : h.get? a ≠ none := let ⟨_, y, _⟩ := y; fun z => by rw [y] at z; cases z
theorem Iter.str {w : World} {y : Str} {p : Pos} {g : Heap} {l : List Nat} {t : Tok} : Iter w (.Name y p) g (.str (T l) t) l.length (fun i v => ∃ u, v = .str (T [l.getD i 0]) u) := .mk fun A s Q E hA u k => by
  have hW : ∀ St, Walks pw w A s.heap.objs.size [s.heap.objs.size] [s.heap.objs.size] (T l).cps.size (SignAt (T l)) St → Walks pw w A s.heap.objs.size [s.heap.objs.size] [s.heap.objs.size] l.length (fun i v => ∃ u, v = .str (T [l.getD i 0]) u) St := fun St W => by
    have e1 : (T l).cps.size = l.length := T_len l
    rw [e1] at W
    refine ⟨W.sub, W.frame, fun i s Q E hi st hQ => W.item i s Q E hi st fun v h' tk pv => hQ v h' tk ?_, W.done, W.self⟩
    obtain ⟨c, u, hc, rfl⟩ := pv
    refine ⟨u, ?_⟩
    have : l.getD i 0 = c := by
      have hc : l[i]? = some c := by simpa [T] using hc
      rw [List.getD_eq_getElem?_getD, hc]; rfl
    rw [this]; rfl
  cases ha : (T l).cps.all (· < 128)
  · refine wpAny_pyIter_wide ha ?_
    exact k _ _ _ rfl (hW _ (Walks.strWide hA _ (T l) t)) (fun i h st => siter_in st) (fun b hb => by rw [List.mem_singleton] at hb; exact .inl hb) (fun i x s' Q E _ _ q => wpAny_of_eq (a := ()) rfl q) ⟨_, Heap.get?_push_size _ rfl, rfl, rfl⟩
  · refine wpAny_pyIter_ascii ha ?_
    exact k _ _ _ rfl (hW _ (Walks.strAscii hA _ (T l) t)) (fun i h st => siter_in st) (fun b hb => by rw [List.mem_singleton] at hb; exact .inl hb) (fun i x s' Q E _ _ q => wpAny_of_eq (a := ()) rfl q) ⟨_, Heap.get?_push_size _ rfl, rfl, rfl⟩
theorem Iter.tuple {w : World} {x : Str} {p : Pos} {g : Heap} {v : Value} {vs : List Value} (h : IsTup g v vs) : Iter w (.Name x p) g v vs.length (fun i v => vs[i]? = some v) := .mk fun A s Q E hA u k => by
  obtain ⟨a, rfl, hl⟩ := h
  have hl' : s.heap.IsTuple a vs.toArray := let ⟨o, ho, r⟩ := hl; ⟨o, u _ _ ho, r⟩
  have hne : a ≠ s.heap.objs.size := by obtain ⟨o, ho, _⟩ := hl'; exact Nat.ne_of_lt (Heap.lt_size ho)
  refine wpAny_pyIter_tuple hl' ?_
  have W := Walks.tuple (prog := pw) (w := w) (A := A) hA s.heap.objs.size a hne vs.toArray
  rw [show vs.toArray.size = vs.length from List.size_toArray] at W
  simp only [List.getElem?_toArray] at W
  refine k _ _ _ rfl W (fun i h st => titer_in st.1) (fun b hb => ?_) (fun i x s' Q E _ _ q => wpAny_of_eq (a := ()) rfl q) ⟨⟨_, Heap.get?_push_size _ rfl, rfl, rfl⟩, hl'.push _⟩
  rcases List.mem_cons.mp hb with rfl | hb
  · exact .inl rfl
  · rw [List.mem_singleton] at hb
    subst hb
    obtain ⟨o, ho, _⟩ := hl
    exact .inr fun z => by rw [ho] at z; cases z

theorem StF.for {t target : Expr} {body : List Stmt} {K : Heap → Value → Prop} (hA : A.handled = none) (ht : EvF w A e sc B vals g₀ t K)
    (h : ∀ g v, Up g₀ g → K g v → ∃ n Pv, Iter w target g v n Pv ∧ ∃ J : Nat → Heap → List (Option Value) → Prop, J 0 g vals ∧
      (∀ i x g₁ u, i < n → Pv i x → Up g g₁ → J i g₁ u → ∃ u', AsF w A e sc u g₁ target x u' ∧ ∀ B', BlF w A e sc B' u' g₁ body (fun g' f v' => match f with | .next | .cont => J (i + 1) g' v' | .brk => P g' .next v' | .ret y => P g' (.ret y) v')) ∧
      (∀ g₁ u, Up g g₁ → J n g₁ u → P g₁ .next u))
    (hs : ∀ x, foldedSetIterable t e x = pure x := by intro _; rfl) : StF w A e sc B vals g₀ (.For target t body [] pos) P := .mk fun s g Q E u F k => by
  refine wpAny_For (ht.run s g _ E u F fun v g₁ h₁ tk₁ u₁ ug₁ F₁ hK => ?_) hs
  obtain ⟨n, Pv, it, J, j0, turn, done⟩ := h g₁ v (u.tr ug₁) hK
  refine it.run A { s with heap := h₁, toks := tk₁ } _ E hA F₁.vis fun o fp St ho W hpres hfp hgo hst => ?_
  exact for_walk (s := { s with heap := h₁, toks := tk₁ }) hA W hpres (fun b hb => (hfp b hb).imp id fun z m => z (F₁.goff b m)) ho J hgo (fun i x g₂ v₂ hi px ug hj => turn i x g₂ v₂ hi px ug hj) (fun g₂ v₂ ug hj => done g₂ v₂ ug hj) F₁ Up.rfl' j0 hst
    fun f g' h' tk vals' ug F' p => k f g' h' tk vals' (ug₁.tr ug) F' p
theorem BlF.for {t target : Expr} {body : List Stmt} {K : Heap → Value → Prop} (Aft : Heap → List (Option Value) → Prop) (hA : A.handled = none) (ht : EvF w A e sc B vals g₀ t K)
    (h : ∀ g v, Up g₀ g → K g v → ∃ n Pv, Iter w target g v n Pv ∧ ∃ J : Nat → Heap → List (Option Value) → Prop, J 0 g vals ∧
      (∀ i x g₁ u, i < n → Pv i x → Up g g₁ → J i g₁ u → ∃ u', AsF w A e sc u g₁ target x u' ∧ ∀ B', BlF w A e sc B' u' g₁ body (fun g' f v' => match f with | .next | .cont => J (i + 1) g' v' | .brk => Aft g' v' | .ret y => P g' (.ret y) v')) ∧
      (∀ g₁ u, Up g g₁ → J n g₁ u → Aft g₁ u))
    (k : ∀ g v, Up g₀ g → Aft g v → BlF w A e sc B v g rest P)
    (hs : ∀ x, foldedSetIterable t e x = pure x := by intro _; rfl) : BlF w A e sc B vals g₀ (.For target t body [] pos :: rest) P :=
  BlF.step (M := fun g f v => match f with | .next => Aft g v | f => P g f v) (StF.for hA ht (fun g v u hK => by
    obtain ⟨n, Pv, it, J, j0, turn, done⟩ := h g v u hK
    exact ⟨n, Pv, it, J, j0, fun i x g₁ u hi px ug hj => let ⟨u', a, b⟩ := turn i x g₁ u hi px ug hj; ⟨u', a, fun B' => (b B').weak fun g f v _ p => by cases f <;> exact p⟩, done⟩) hs) fun g f v u p => by
      cases f with
      | next => exact k g v u p
      | _ => exact p
end
end Mine

end

section
open PySem PySem.W PyProof.Rows PySem.Calls
set_option Elab.async false
set_option linter.unusedVariables false
namespace Mine

/-! ## comprehensions: their own frame -/
def relabelS (scope sc : Scope) : Scope :=
  { scope with names := scope.names.map fun (n, k) => if (k == .free && sc.kind == .function && sc.names.lookup n == some .cell) then (n, .cell) else (n, k) }
theorem relabel_is {e : Env} {sc scope : Scope} (E : EnvIs e sc) : relabel scope e = relabelS scope sc := by
  unfold relabel relabelS
  have : ∀ n, e.kindOf n = sc.names.lookup n := E.kindOf
  simp only [this, E.scope]
def closL (cs : List (Str × Addr)) : List (Str × NameKind) → List (Str × Addr) → List (Str × Addr)
  | [], acc => acc
  | (n, k) :: r, acc => if k == .free then closL cs r ((n, (cs.lookup n).getD 0) :: acc) else closL cs r acc
theorem clos_go {e : Env} : ∀ (names : List (Str × NameKind)) (acc : List (Str × Addr)), (∀ n, (n, NameKind.free) ∈ names → (e.cells.lookup n).isSome = true) →
    (forIn names acc fun (x : Str × NameKind) cs => if x.2 == .free then do let c ← cellOf e x.1; pure (ForInStep.yield ((x.1, c) :: cs)) else pure (ForInStep.yield cs) : Sem (List (Str × Addr))) = pure (closL e.cells names acc)
  | [], _, _ => rfl
  | (n, k) :: r, acc, h => by
    rw [List.forIn_cons]
    unfold closL
    cases hk : (k == NameKind.free) with
    | false => exact clos_go r acc fun m hm => h m (.tail _ hm)
    | true =>
      have : k = .free := by cases k <;> first | rfl | cases hk
      subst this
      obtain ⟨c, hc⟩ := Option.isSome_iff_exists.mp (h n (.head _))
      have e1 : cellOf e n = pure c := by unfold cellOf; rw [hc]
      simp only [if_true, e1, hc, Option.getD_some, pure_bind]
      exact clos_go r _ fun m hm => h m (.tail _ hm)
theorem clos_is {e : Env} {scope : Scope} (h : ∀ n, (n, NameKind.free) ∈ scope.names → (e.cells.lookup n).isSome = true) : closureFor scope e = pure (closL e.cells scope.names []) := by
  rw [← clos_go scope.names [] h]
  exact bind_pure _

theorem nmGo_at2 {x : Str} {f : Str × NameKind → Option Value} : ∀ (l : List (Str × NameKind)) (n i : Nat) (k : NameKind), nmGo x n l = some (i, k) → at' (l.map f) (i - n) = f (x, k)
  | [], _, _, _, h => by cases h
  | (y, q) :: r, n, i, k, h => by
    unfold nmGo at h
    cases hx : (x == y) with
    | true =>
      rw [hx] at h; cases h
      rw [Nat.sub_self, beq_iff_eq.mp hx]; rfl
    | false =>
      rw [hx] at h
      have := nmGo_ge x r _ _ _ h
      have e : i - n = (i - (n + 1)) + 1 := by omega
      rw [e]
      exact nmGo_at2 r (n + 1) i k h
theorem nmGo_of_lookup (x : Str) : ∀ (l : List (Str × NameKind)) (n : Nat) (k : NameKind), l.lookup x = some k → ∃ i, nmGo x n l = some (i, k)
  | [], _, _, h => by cases h
  | (y, q) :: r, n, k, h => by
    unfold nmGo
    rw [List.lookup_cons] at h
    cases hx : (x == y) with
    | true => rw [hx] at h; cases h; exact ⟨n, rfl⟩
    | false => rw [hx] at h; exact nmGo_of_lookup x r (n + 1) k h
theorem nmGo_mem (x : Str) : ∀ (l : List (Str × NameKind)) (n i : Nat) (k : NameKind), nmGo x n l = some (i, k) → (x, k) ∈ l
  | [], _, _, _, h => by cases h
  | (y, q) :: r, n, i, k, h => by
    unfold nmGo at h
    cases hx : (x == y) with
    | true => rw [hx] at h; cases h; rw [beq_iff_eq.mp hx]; exact .head _
    | false => rw [hx] at h; exact .tail _ (nmGo_mem x r (n + 1) i k h)
/-- what a comprehension's frame holds at its start: the cells of the frame around it -/
def cvAt (sc : Scope) (vals : List (Option Value)) (p : Str × NameKind) : Option Value := match p.2 with
  | .cell => (match nmAt sc p.1 with | some (j, _) => at' vals j | none => none)
  | _ => none
def compVals (sc' sc : Scope) (vals : List (Option Value)) : List (Option Value) := sc'.names.map (cvAt sc vals)
theorem compVals_at {sc' sc : Scope} {vals : List (Option Value)} {y : Str} {i : Nat} {k : NameKind} (h : nmAt sc' y = some (i, k)) : at' (compVals sc' sc vals) i = cvAt sc vals (y, k) := by
  have := nmGo_at2 (f := cvAt sc vals) sc'.names 0 i k h
  rwa [Nat.sub_zero] at this

theorem relabel_free {scope sc : Scope} (hc : ∀ y ∈ scope.names, y.2 ≠ .cell) {x : Str} {i : Nat} (h : nmAt (relabelS scope sc) x = some (i, .cell)) : (x, NameKind.free) ∈ scope.names ∧ sc.names.lookup x = some .cell := by
  have m := nmGo_mem x _ _ _ _ h
  obtain ⟨⟨y, k⟩, hm, e⟩ := List.mem_map.mp m
  dsimp only at e
  split at e
  · rename_i c
    cases e
    simp only [Bool.and_eq_true] at c
    have : k = .free := by cases k <;> first | rfl | (exact absurd c.1.1 (by decide))
    subst this
    exact ⟨hm, beq_iff_eq.mp c.2⟩
  · cases e
    exact absurd rfl (hc _ hm)

theorem closL_lookup (cs : List (Str × Addr)) {x : Str} : ∀ (names : List (Str × NameKind)) (acc : List (Str × Addr)), (names.map (·.1)).Nodup → (x, NameKind.free) ∈ names → (closL cs names acc).lookup x = some ((cs.lookup x).getD 0)
  | [], _, _, h => by cases h
  | (n, k) :: r, acc, hn, h => by
    unfold closL
    rw [List.map_cons, List.nodup_cons] at hn
    rcases List.mem_cons.mp h with e | h
    · cases e
      show (closL cs r _).lookup x = _
      have keep : ∀ (names : List (Str × NameKind)) (acc : List (Str × Addr)), x ∉ names.map (·.1) → (closL cs names acc).lookup x = acc.lookup x := fun names => by
        induction names with
        | nil => intro acc _; rfl
        | cons p q ih =>
          obtain ⟨m, k⟩ := p
          intro acc hx
          rw [List.map_cons, List.mem_cons] at hx
          unfold closL
          split
          · rw [ih _ (fun z => hx (.inr z)), List.lookup_cons]
            have : (x == m) = false := by
              cases z : (x == m) with
              | false => rfl
              | true => exact absurd (.inl (beq_iff_eq.mp z)) hx
            rw [this]
          · exact ih _ fun z => hx (.inr z)
      rw [keep r _ hn.1, List.lookup_cons]; simp
    · split
      · exact closL_lookup cs r _ hn.2 h
      · exact closL_lookup cs r _ hn.2 h
theorem closL_mem (cs : List (Str × Addr)) {p : Str × Addr} : ∀ (names : List (Str × NameKind)) (acc : List (Str × Addr)), p ∈ closL cs names acc → p ∈ acc ∨ ((p.1, NameKind.free) ∈ names ∧ p.2 = (cs.lookup p.1).getD 0)
  | [], _, h => .inl h
  | (n, k) :: r, acc, h => by
    unfold closL at h
    split at h
    · rename_i c
      have : k = .free := by cases k <;> first | rfl | cases c
      subst this
      rcases closL_mem cs r _ h with h | h
      · rcases List.mem_cons.mp h with e | h
        · subst e; exact .inr ⟨.head _, rfl⟩
        · exact .inl h
      · exact .inr ⟨.tail _ h.1, h.2⟩
    · rcases closL_mem cs r _ h with h | h
      · exact .inl h
      · exact .inr ⟨.tail _ h.1, h.2⟩
theorem closL_names (cs : List (Str × Addr)) : ∀ (names : List (Str × NameKind)) (acc : List (Str × Addr)), (names.map (·.1)).Nodup → (acc.map (·.1)).Nodup → (∀ x ∈ names.map (·.1), x ∉ acc.map (·.1)) → ((closL cs names acc).map (·.1)).Nodup
  | [], _, _, h, _ => h
  | (x, k) :: r, acc, hn, ha, hd => by
    unfold closL
    rw [List.map_cons, List.nodup_cons] at hn
    split
    · refine closL_names cs r _ hn.2 (List.nodup_cons.mpr ⟨hd x (by simp), ha⟩) fun y hy => ?_
      rw [List.map_cons, List.mem_cons]
      rintro (z | z)
      · exact hn.1 (z ▸ hy)
      · exact hd y (List.mem_cons_of_mem _ hy) z
    · exact closL_names cs r _ hn.2 ha fun y hy => hd y (List.mem_cons_of_mem _ hy)
theorem nodup_snd {cs : List (Str × Addr)} : ∀ l : List (Str × Addr), (l.map (·.1)).Nodup → (∀ p ∈ l, ∀ q ∈ l, p.2 = q.2 → p.1 = q.1) → (l.map (·.2)).Nodup
  | [], _, _ => List.nodup_nil
  | p :: r, h, hi => by
    rw [List.map_cons, List.nodup_cons] at h ⊢
    refine ⟨fun m => ?_, nodup_snd (cs := cs) r h.2 fun a ha b hb => hi a (.tail _ ha) b (.tail _ hb)⟩
    obtain ⟨q, hq, e⟩ := List.mem_map.mp m
    exact h.1 (List.mem_map.mpr ⟨q, hq, hi q (.tail _ hq) p (.head _) e⟩)


/-- the comprehension's own frame stands -/
theorem comp_frame {e : Env} {sc scope : Scope} {B : Base} {g h h' : Heap} {vals : List (Option Value)} {C : Addr} {hid : List Addr} (F : Fz e sc B g h vals) (hk : scope.kind = .function) (hc : ∀ y ∈ scope.names, y.2 ≠ .cell)
    (hnn : (scope.names.map (·.1)).Nodup) (hfr : ∀ n, (n, NameKind.free) ∈ scope.names → sc.names.lookup n = some .cell) (u : Up h h') (hC : h.get? C = none) (hns : h'.Ns C fun _ => none)
    (hid0 : ∀ b ∈ hid, g.get? b = none) (hid1 : ∀ b ∈ hid, h'.get? b ≠ none) :
    closureFor scope e = pure (closL e.cells scope.names []) ∧
    (C ∉ mutOf e → Fz (compEnvC scope (closL e.cells scope.names []) C e) (relabelS scope sc) ⟨g, hid⟩ g h' (compVals (relabelS scope sc) sc vals)) := by
  have look : ∀ n, (n, NameKind.free) ∈ scope.names → ∃ i c, nmAt sc n = some (i, .cell) ∧ e.cells.lookup n = some c ∧ h.IsCell c (at' vals i) := fun n hn => by
    obtain ⟨i, hi⟩ := nmGo_of_lookup n sc.names 0 .cell (hfr n hn)
    obtain ⟨c, h1, h2⟩ := F.cell n i hi
    exact ⟨i, c, hi, h1, h2⟩
  refine ⟨clos_is fun n hn => let ⟨_, c, _, h1, _⟩ := look n hn; by rw [h1]; rfl, fun hCm => ?_⟩
  have hsub : ∀ p ∈ closL e.cells scope.names [], (p.1, p.2) ∈ e.cells := fun p hp => by
    rcases closL_mem _ _ _ hp with z | ⟨z1, z2⟩
    · cases z
    · obtain ⟨i, c, _, h1, _⟩ := look _ z1
      rw [z2, h1]
      exact mem_of_lookup h1
  have hnd := List.nodup_cons.mp F.nd
  have hmut : ∀ b ∈ mutOf (compEnvC scope (closL e.cells scope.names []) C e), b = C ∨ b ∈ mutOf e := fun b hb => by
    rcases List.mem_cons.mp hb with z | hb
    · exact .inl z
    · obtain ⟨p, hp, rfl⟩ := List.mem_map.mp hb
      exact .inr (.tail _ (List.mem_map.mpr ⟨_, hsub p hp, rfl⟩))
  have hgC : g.get? C = none := F.vis.none hC
  refine ⟨⟨relabel_is F.env, hk, F.env.globals, F.env.builtins⟩, ⟨_, hns, fun x i hx => ?_⟩, fun x i hx => ?_, F.vis.tr u, F.vis.tr u, ?_, ?_, hid0, hid1, fun b hb => ?_, ?_⟩
  · rw [compVals_at hx]; rfl
  · obtain ⟨hf, hl⟩ := relabel_free hc hx
    obtain ⟨j, c, hj, h1, h2⟩ := look x hf
    refine ⟨c, ?_, ?_⟩
    · show (closL e.cells scope.names []).lookup x = some c
      rw [closL_lookup _ _ _ hnn hf, h1]; rfl
    · rw [compVals_at hx]
      show h'.IsCell c (match nmAt sc x with | some (j, _) => at' vals j | none => none)
      rw [hj]
      exact h2.keeps u
  · exact fun b hb => (hmut b hb).elim (fun z => z ▸ hgC) (F.goff b)
  · exact fun b hb => (hmut b hb).elim (fun z => z ▸ hgC) (F.goff b)
  · rcases hmut b hb with rfl | hb
    · exact Ns.in hns
    · exact u.in (F.min b hb)
  · refine List.nodup_cons.mpr ⟨fun hb => ?_, nodup_snd (cs := e.cells) _ (closL_names _ _ _ hnn List.nodup_nil (by simp)) fun p hp q hq z => ?_⟩
    · obtain ⟨p, hp, z⟩ := List.mem_map.mp hb
      have z' : p.2 = C := z
      exact hCm (z' ▸ .tail _ (List.mem_map.mpr ⟨_, hsub p hp, rfl⟩))
    · have h1 := hsub p hp
      have h2 := hsub q hq
      rw [← z] at h2
      exact nodup_snd_inj hnd.2 h1 h2

inductive All2 {α β : Type} (R : α → β → Prop) : List α → List β → Prop
  | nil : All2 R [] []
  | cons {a b l m} : R a b → All2 R l m → All2 R (a :: l) (b :: m)
theorem All2.imp {α β : Type} {R S : α → β → Prop} (h : ∀ a b, R a b → S a b) {l : List α} {m : List β} (x : All2 R l m) : All2 S l m := by
  induction x with
  | nil => exact .nil
  | cons a _ ih => exact .cons (h _ _ a) ih
theorem All2.len {α β : Type} {R : α → β → Prop} {l : List α} {m : List β} (x : All2 R l m) : l.length = m.length := by
  induction x with
  | nil => rfl
  | cons _ _ ih => rw [List.length_cons, List.length_cons, ih]
theorem All2.snoc {α β : Type} {R : α → β → Prop} {l : List α} {m : List β} (x : All2 R l m) {a : α} {b : β} (h : R a b) : All2 R (l ++ [a]) (m ++ [b]) := by
  induction x with
  | nil => exact .cons h .nil
  | cons y _ ih => exact .cons y ih
theorem All2.get {α β : Type} {R : α → β → Prop} {l : List α} {m : List β} (x : All2 R l m) {i : Nat} {b : β} (h : m[i]? = some b) : ∃ a, l[i]? = some a ∧ R a b := by
  induction x generalizing i with
  | nil => simp at h
  | cons y _ ih => cases i with
    | zero => simp at h; subst h; exact ⟨_, rfl, y⟩
    | succ i => simpa using ih (by simpa using h)
theorem All2.get' {α β : Type} {R : α → β → Prop} {l : List α} {m : List β} (x : All2 R l m) {i : Nat} {a : α} (h : l[i]? = some a) : ∃ b, m[i]? = some b ∧ R a b := by
  induction x generalizing i with
  | nil => simp at h
  | cons y _ ih => cases i with
    | zero => simp at h; subst h; exact ⟨_, rfl, y⟩
    | succ i => simpa using ih (by simpa using h)

theorem All2.map {α β γ : Type} {R : β → γ → Prop} {f : α → β} {l : List α} {m : List γ} (x : All2 (fun a c => R (f a) c) l m) : All2 R (l.map f) m := by
  induction x with
  | nil => exact .nil
  | cons y _ ih => exact .cons y ih
theorem All2.unmap {α β γ : Type} {R : β → γ → Prop} {f : α → β} : ∀ {l : List α} {m : List γ}, All2 R (l.map f) m → All2 (fun a c => R (f a) c) l m
  | [], _, h => by cases h; exact .nil
  | a :: l, _, h => by cases h with | cons y r => exact .cons y (All2.unmap r)

/-- the numbers of the rows taken, and what stands for them -/
def Sel (p : Nat → Bool) (V : Nat → Heap → Value → Prop) (g : Heap) (n : Nat) (ys : List Value) : Prop := All2 (fun i y => V i g y) ((List.range n).filter p) ys

section
variable {w : World} {A : Around} {E : Value → Shared → Prop} {s : Shared} {e : Env} {sc : Scope} {B : Base} {g g₀ : Heap} {vals : List (Option Value)} {pos pos' : Pos} {rest : List Stmt} {P : PostT}

theorem sel_snoc {p : Nat → Bool} {V : Nat → Heap → Value → Prop} {n : Nat} {ys : List Value} {y : Value} (h : Sel p V g n ys) (hp : p n = true) (hy : V n g y) : Sel p V g (n + 1) (ys ++ [y]) := by
  unfold Sel
  rw [List.range_succ, List.filter_append, List.filter_cons_of_pos hp]
  exact All2.snoc h hy
theorem sel_skip {p : Nat → Bool} {V : Nat → Heap → Value → Prop} {n : Nat} {ys : List Value} (h : Sel p V g n ys) (hp : p n = false) : Sel p V g (n + 1) ys := by
  unfold Sel
  rw [List.range_succ, List.filter_append, List.filter_cons_of_neg (by rw [hp]; exact Bool.false_ne_true), List.filter_nil, List.append_nil]
  exact h
theorem sel_up {p : Nat → Bool} {V : Nat → Heap → Value → Prop} {n : Nat} {ys : List Value} {g' : Heap} (hV : ∀ i, Mono (V i)) (u : Up g g') (h : Sel p V g n ys) : Sel p V g' n ys :=
  All2.imp (fun i y hy => hV i _ _ _ u hy) h
theorem sel_len {p : Nat → Bool} {V : Nat → Heap → Value → Prop} {n : Nat} {ys : List Value} (h : Sel p V g n ys) : ys.length ≤ n := by
  have h1 := All2.len h
  have h2 := List.length_filter_le p (List.range n)
  rw [List.length_range] at h2
  omega

/-- the tests of a comprehension -/
def TsL (w : World) (A : Around) (e : Env) (sc : Scope) (B : Base) (vals : List (Option Value)) (g : Heap) (ifs : List Expr) (b : Bool) : Prop :=
  (ifs = [] ∧ b = true) ∨ ∃ t, ifs = [t] ∧ TsF w A e sc B vals g t b
theorem TsL.go {ifs : List Expr} {b : Bool} {Q : Bool → Shared → Prop} (x : TsL w A e sc B vals g ifs b) (F : Fz e sc B g s.heap vals)
    (h : ∀ g' h' tk, Up s.heap h' → Up g g' → Fz e sc B g' h' vals → Q b { s with heap := h', toks := tk }) :
    wpAny (model pw w) A (forIn ifs true fun c r => if r = true then do let ok ← isTrue c e (eval c e); pure (ForInStep.yield ok) else pure (ForInStep.yield r)) Q E s := by
  rcases x with ⟨rfl, rfl⟩ | ⟨t, rfl, x⟩
  · rw [List.forIn_nil]
    exact wpAny_pure (h g s.heap s.toks Up.rfl' Up.rfl' F)
  · rw [List.forIn_cons]
    simp only [if_true]
    refine wpAny_bind (wpAny_bind (x.go F fun g' h' tk u ug F' => wpAny_pure ?_))
    show wpAny _ _ (forIn [] b _) _ _ _
    rw [List.forIn_nil]
    exact wpAny_pure (h g' h' tk u ug F')

theorem comp_core {elt iter : Expr} {x : Str} {px : Pos} {ifs : List Expr} {scope : Scope} {I D C : Addr} {H : Heap} {fp : List Addr} {n : Nat} {Pv : Nat → Value → Prop} {St : Nat → Heap → Prop} {R : Result → Shared → Prop}
    {p : Nat → Bool} {V : Nat → Heap → Value → Prop} {ix : Nat} (hV : ∀ i, Mono (V i)) (W : Walks pw w A I fp [I] n Pv St) (hpres : ∀ i h, St i h → h.get? I ≠ none) (hfp : ∀ b ∈ fp, b = I ∨ g.get? b ≠ none) (hsz : n ≤ sizeLine)
    (hk : scope.kind = .function) (hc : ∀ y ∈ scope.names, y.2 ≠ .cell) (hnn : (scope.names.map (·.1)).Nodup) (hfr : ∀ n, (n, NameKind.free) ∈ scope.names → sc.names.lookup n = some .cell)
    (hx : nmAt (relabelS scope sc) x = some (ix, .local)) (hxl : ix < (compVals (relabelS scope sc) sc vals).length) (F : Fz e sc B g H vals) (u0 : Up H s.heap)
    (hI : H.get? I = none) (hD : H.get? D = none) (hC : H.get? C = none) (hIl : H.objs.size ≤ I) (hDl : H.objs.size ≤ D) (hCl : H.objs.size ≤ C) (hID : I ≠ D) (hIC : I ≠ C) (hDC : D ≠ C)
    (hst : St 0 s.heap) (hacc : s.heap.IsList D #[]) (hns : s.heap.Ns C fun _ => none)
    (body : ∀ cenv B' i y g₁, EnvIs cenv (relabelS scope sc) → i < n → Pv i y → Up g g₁ →
      TsL w A cenv (relabelS scope sc) B' (setAt ix (some y) (compVals (relabelS scope sc) sc vals)) g₁ ifs (p i) ∧
      (p i = true → EvF w A cenv (relabelS scope sc) B' (setAt ix (some y) (compVals (relabelS scope sc) sc vals)) g₁ elt (V i)))
    (hR : ∀ ys g' h' tk, Up g g' → Up g' h' → (∀ b ∈ mutOf e ++ B.hid, g'.get? b = none) → g'.get? D = none → g'.get? C = none → Up H h' → h'.IsList D ys.toArray → Sel p V g' n ys → (∃ m, h'.Ns C m) → R (.ok .next) { s with heap := h', toks := tk }) :
    codeAny (model pw w) A (.compLoop (.ListComp elt [⟨.Name x px, iter, ifs, 0⟩] scope pos) 0 (.ref I) (.ref D) (compEnvC scope (closL e.cells scope.names []) C e)) R s := by
  have ng : ∀ a, H.get? a = none → g.get? a = none := fun a z => F.vis.none z
  have nm : ∀ a, H.get? a = none → a ∉ mutOf e := fun a z m => F.min a m z
  have Fc := (comp_frame (hid := I :: D :: (mutOf e ++ B.hid)) F hk hc hnn hfr u0 hC hns (fun b hb => by
      rcases List.mem_cons.mp hb with rfl | hb
      · exact ng _ hI
      rcases List.mem_cons.mp hb with rfl | hb
      · exact ng _ hD
      exact (List.mem_append.mp hb).elim (F.goff b) (F.hoff b)) (fun b hb => by
      rcases List.mem_cons.mp hb with rfl | hb
      · exact hpres _ _ hst
      rcases List.mem_cons.mp hb with rfl | hb
      · obtain ⟨o, ho, _⟩ := hacc; intro z; rw [ho] at z; cases z
      exact (List.mem_append.mp hb).elim (fun m => u0.in (F.min b m)) fun m => u0.in (F.hin b m))).2 (nm _ hC)
  generalize hcv : compVals (relabelS scope sc) sc vals = cv at Fc body hxl
  generalize hce : compEnvC scope (closL e.cells scope.names []) C e = cenv at Fc ⊢
  have hcl : cenv.locals = C := by rw [← hce]; rfl
  have hmc : ∀ b ∈ mutOf cenv, H.get? b ≠ none ∨ b = C := fun b hb => by
    rw [← hce] at hb
    rcases List.mem_cons.mp hb with z | hb
    · exact .inr z
    · obtain ⟨q, hq, rfl⟩ := List.mem_map.mp hb
      rcases closL_mem _ _ _ hq with z | ⟨z1, z2⟩
      · cases z
      · obtain ⟨j, hj⟩ := nmGo_of_lookup q.1 sc.names 0 .cell (hfr _ z1)
        obtain ⟨c, h1, h2⟩ := F.cell q.1 j hj
        rw [z2, h1]
        exact .inl (IsCell.in h2)
  have hIm : I ∉ mutOf cenv := fun m => (hmc I m).elim (fun z => z hI) hIC
  have hDm : D ∉ mutOf cenv := fun m => (hmc D m).elim (fun z => z hD) hDC
  refine codeAny_compLoop_tests (fun k s' => ∃ i ys g' h tk v, s' = { s with heap := h, toks := tk } ∧ k = n - i ∧ i ≤ n ∧ St i h ∧ h.IsList D ys.toArray ∧ Up g g' ∧ Fz cenv (relabelS scope sc) ⟨g, I :: D :: (mutOf e ++ B.hid)⟩ g' h v ∧
      (v = cv ∨ ∃ y, v = setAt ix (some y) cv) ∧ Up H h ∧ Sel p V g' i ys) ?_ n ⟨0, [], g, s.heap, s.toks, cv, rfl, rfl, Nat.zero_le _, hst, hacc, Up.rfl', Fc, .inl rfl, u0, .nil⟩
  rintro k s' ⟨i, ys, g', h, tk, v, rfl, rfl, hin, st, hl, ug, F', hv, uH, sel⟩
  have hvl : ix < v.length ∧ ∀ y, setAt ix (some y) v = setAt ix (some y) cv := by
    rcases hv with rfl | ⟨y, rfl⟩
    · exact ⟨hxl, fun _ => rfl⟩
    · have len : ∀ (j : Nat) (l : List (Option Value)) (a : Option Value), (setAt j a l).length = l.length := fun j l a => by
        induction l generalizing j with
        | nil => cases j <;> rfl
        | cons b r ih => cases j with
          | zero => rfl
          | succ j => show (setAt j a r).length + 1 = _; rw [ih]; rfl
      have two : ∀ (j : Nat) (l : List (Option Value)) (a b : Option Value), setAt j b (setAt j a l) = setAt j b l := fun j l a b => by
        induction l generalizing j with
        | nil => cases j <;> rfl
        | cons c r ih => cases j with
          | zero => rfl
          | succ j => show c :: setAt j b (setAt j a r) = c :: setAt j b r; rw [ih]
      exact ⟨by rw [len]; exact hxl, fun z => two _ _ _ _⟩
  by_cases hi : i < n
  · refine W.item i { s with heap := h, toks := tk } _ _ hi st fun y h₁ tk₁ py st₁ k₁ => ?_
    have k₁' : ∀ b o, b ≠ I → h.get? b = some o → h₁.get? b = some o := fun b o hb => k₁ b o (by simpa using hb)
    have F₁ := F'.but hIm (.inr (hpres _ _ st₁)) (ng _ hI) (F'.hoff I (.head _)) k₁'
    refine wpAny_assign_Name (stL (s := { s with heap := h₁, toks := tk₁ }) F₁ hx hvl.1 fun h₂ tk₂ F₂ k₂ _ => ?_)
    rw [hvl.2] at F₂
    rw [hcl] at k₂
    obtain ⟨t1, t2⟩ := body cenv ⟨g, I :: D :: (mutOf e ++ B.hid)⟩ i y g' F₂.env hi py ug
    have st₂ : St (i + 1) h₂ := W.frame _ _ _ st₁ fun b hb o z => k₂ b o (fun zc => by
      rcases hfp b hb with rfl | q
      · exact hIC zc
      · exact q (zc ▸ ng _ hC)) z
    have l₂ : h₂.IsList D ys.toArray := let ⟨o, ho, r⟩ := hl; ⟨o, k₂ _ _ hDC (k₁' _ _ (Ne.symm hID) ho), r⟩
    have uH₂ : Up H h₂ := fun b o z => k₂ b o (fun q => by rw [q, hC] at z; cases z) (k₁' b o (fun q => by rw [q, hI] at z; cases z) (uH b o z))
    refine t1.go (s := { s with heap := h₂, toks := tk₂ }) F₂ fun g₃ h₃ tk₃ u₃ ug₃ F₃ => ?_
    have st₃ : St (i + 1) h₃ := W.frame _ _ _ st₂ fun b _ o z => u₃ b o z
    have l₃ : h₃.IsList D ys.toArray := let ⟨o, ho, r⟩ := l₂; ⟨o, u₃ _ _ ho, r⟩
    cases hp : p i with
    | false => exact ⟨n - (i + 1), by omega, i + 1, ys, g₃, h₃, tk₃, _, rfl, rfl, hi, st₃, l₃, ug.tr ug₃, F₃, .inr ⟨y, rfl⟩, uH₂.tr u₃, sel_skip (sel_up hV ug₃ sel) hp⟩
    | true =>
      simp only [if_true]
      refine (t2 hp).up ug₃ |>.go (s := { s with heap := h₃, toks := tk₃ }) F₃ fun z g₄ h₄ tk₄ u₄ ug₄ F₄ hz => ?_
      have l₄ : h₄.IsList D ys.toArray := let ⟨o, ho, r⟩ := l₃; ⟨o, u₄ _ _ ho, r⟩
      refine wpAny_list_append (s := { s with heap := h₄, toks := tk₄ }) l₄ (fun h₅ l₅ k₅ => ?_) (by rw [List.size_toArray]; have := sel_len sel; omega)
      have k₅' : ∀ b o, b ≠ D → h₄.get? b = some o → h₅.get? b = some o := fun b o hb q => (k₅.2 b hb).trans q
      have F₅ := F₄.but hDm (.inr (fun z => by obtain ⟨o, ho, _⟩ := l₅; rw [ho] at z; cases z)) (ng _ hD) (F₄.hoff D (.tail _ (.head _))) k₅'
      have st₅ : St (i + 1) h₅ := W.frame _ _ _ st₃ fun b hb o z => k₅' b o (fun zd => by
        rcases hfp b hb with rfl | q
        · exact hID zd
        · exact q (zd ▸ ng _ hD)) (u₄ b o z)
      refine ⟨n - (i + 1), by omega, i + 1, ys ++ [z], g₄, h₅, tk₄, _, rfl, rfl, hi, st₅, by simpa using l₅, ug.tr (ug₃.tr ug₄), F₅, .inr ⟨y, rfl⟩, fun b o q => k₅' b o (fun zd => by rw [zd, hD] at q; cases q) (u₄ b o (u₃ b o (uH₂ b o q))),
        sel_snoc (sel_up hV (ug₃.tr ug₄) sel) hp hz⟩
  · have : i = n := by omega
    subst this
    refine W.done { s with heap := h, toks := tk } _ _ st fun h₁ tk₁ k₁ => ?_
    have k₁' : ∀ b o, b ≠ I → h.get? b = some o → h₁.get? b = some o := fun b o hb => k₁ b o (by simpa using hb)
    have gI := F'.hoff I (.head _)
    obtain ⟨m, hm, _⟩ := F'.ns
    refine hR ys g' h₁ tk₁ ug (fun b o z => k₁' b o (fun q => by rw [q, gI] at z; cases z) (F'.vis b o z)) (fun b hb => F'.hoff b (.tail _ (.tail _ hb))) (F'.hoff D (.tail _ (.head _))) (hcl ▸ F'.goff _ Fz.locals_mem)
      (fun b o z => k₁' b o (fun q => by rw [q, hI] at z; cases z) (uH b o z)) ?_ sel ⟨m, ns_at (hcl ▸ hm) fun o => k₁' _ o (Ne.symm hIC)⟩
    obtain ⟨o, ho, r⟩ := hl
    exact ⟨o, k₁' _ _ (Ne.symm hID) ho, r⟩

theorem comp_clos {scope : Scope} {h : Heap} (F : Fz e sc B g h vals) (hfr : ∀ n, (n, NameKind.free) ∈ scope.names → sc.names.lookup n = some .cell) : closureFor scope e = pure (closL e.cells scope.names []) :=
  clos_is fun n hn => by
    obtain ⟨i, hi⟩ := nmGo_of_lookup n sc.names 0 .cell (hfr n hn)
    obtain ⟨c, h1, _⟩ := F.cell n i hi
    rw [h1]; rfl
theorem names_local {scope : Scope} (hnn : (scope.names.map (·.1)).Nodup) : ∀ x ∈ scope.names, x.2 = .local → scope.names.lookup x.1 = some .local := by
  generalize scope.names = l at hnn ⊢
  induction l with
  | nil => intro x hx; cases hx
  | cons p r ih =>
    rw [List.map_cons, List.nodup_cons] at hnn
    intro x hx he
    rw [List.lookup_cons]
    rcases List.mem_cons.mp hx with rfl | hx
    · rw [beq_self_eq_true]; exact congrArg some he
    · have : (x.1 == p.1) = false := by
        cases z : (x.1 == p.1) with
        | false => rfl
        | true => exact absurd (List.mem_map.mpr ⟨_, hx, beq_iff_eq.mp z⟩) hnn.1
      rw [this]; exact ih hnn.2 x hx he

/-- what a comprehension's turn gives -/
abbrev CompBody (w : World) (A : Around) (sc scope : Scope) (cv : List (Option Value)) (g : Heap) (ix : Nat) (ifs : List Expr) (elt : Expr) (n : Nat) (Pv : Nat → Value → Prop) (p : Nat → Bool) (V : Nat → Heap → Value → Prop) : Prop :=
  ∀ cenv B' i y g₁, EnvIs cenv (relabelS scope sc) → i < n → Pv i y → Up g g₁ →
      TsL w A cenv (relabelS scope sc) B' (setAt ix (some y) cv) g₁ ifs (p i) ∧
      (p i = true → EvF w A cenv (relabelS scope sc) B' (setAt ix (some y) cv) g₁ elt (V i))
theorem nmGo_lt {x : Str} : ∀ (l : List (Str × NameKind)) (n i : Nat) (k : NameKind), nmGo x n l = some (i, k) → i < n + l.length
  | [], _, _, _, h => by cases h
  | (y, q) :: r, n, i, k, h => by
    unfold nmGo at h
    cases hx : (x == y) with
    | true => rw [hx] at h; cases h; simp
    | false =>
      rw [hx] at h
      have := nmGo_lt r (n + 1) i k h
      simp only [List.length_cons]
      omega
theorem compVals_lt {sc' sc : Scope} {vals : List (Option Value)} {x : Str} {i : Nat} {k : NameKind} (h : nmAt sc' x = some (i, k)) : i < (compVals sc' sc vals).length := by
  have := nmGo_lt sc'.names 0 i k h
  unfold compVals
  rw [List.length_map]; omega

/-- from the iterator on -/
theorem comp_block {elt iter : Expr} {x : Str} {px : Pos} {ifs : List Expr} {scope : Scope} {o : Obj} {fp : List Addr} {n : Nat} {Pv : Nat → Value → Prop} {St : Nat → Heap → Prop} {RR : Value → Addr → Result → Shared → Prop}
    {p : Nat → Bool} {V : Nat → Heap → Value → Prop} {ix : Nat} (hV : ∀ i, Mono (V i)) (W : Walks pw w A s.heap.objs.size fp [s.heap.objs.size] n Pv St) (ho : o.isFreed = false) (hpres : ∀ i h, St i h → h.get? s.heap.objs.size ≠ none) (hfp : ∀ b ∈ fp, b = s.heap.objs.size ∨ g.get? b ≠ none) (hsz : n ≤ sizeLine)
    (hk : scope.kind = .function) (hc : ∀ y ∈ scope.names, y.2 ≠ .cell) (hnn : (scope.names.map (·.1)).Nodup) (hfr : ∀ n, (n, NameKind.free) ∈ scope.names → sc.names.lookup n = some .cell)
    (hx : nmAt (relabelS scope sc) x = some (ix, .local)) (hxl : ix < (compVals (relabelS scope sc) sc vals).length) (F : Fz e sc B g s.heap vals) (hst : St 0 (s.heap.push o))
    (body : CompBody w A sc scope (compVals (relabelS scope sc) sc vals) g ix ifs elt n Pv p V)
    (hR : ∀ ys g' h' tk D C, D ∉ mutOf e → D ∉ B.hid → C ∉ mutOf e → C ∉ B.hid → C ≠ D → Up g g' → Up g' h' → (∀ b ∈ mutOf e ++ B.hid, g'.get? b = none) → g'.get? C = none → Up s.heap h' → s.heap.get? C = none → h'.IsList D ys.toArray → Sel p V g' n ys → (∃ m, h'.Ns C m) →
      RR (.ref D) C (.ok .next) { s with heap := h', toks := tk }) :
    wpAny (model pw w) A (newList []) (fun acc s₃ => wpAny (model pw w) A (newFunctionEnv scope e.globals (closL e.cells scope.names []) [] e.qual none .none (some e)) (fun cenv s₄ =>
      codeAny (model pw w) A (.compStart (.ListComp elt [⟨.Name x px, iter, ifs, 0⟩] scope pos) 0 (.ref s.heap.objs.size) acc { cenv with scope := relabel scope e }) (RR acc cenv.locals) s₄) E s₃) E { s with heap := s.heap.push o } := by
  refine wpAny_newObj_type (wpAny_newFunctionEnv hc (by intro y hy; simp at hy) (fun h₁ hns₁ hsb₁ => ?_) hk)
  dsimp only at hns₁ hsb₁ ⊢
  have e1 : (s.heap.push o).objs.size = s.heap.objs.size + 1 := Heap.size_push ..
  generalize hH2 : (s.heap.push o).push { cls := .type "list", dict := none, data := .seq ([] : List Value).toArray } = H2 at hns₁ hsb₁ ⊢
  have e2 : H2.objs.size = s.heap.objs.size + 2 := by rw [← hH2, Heap.size_push, e1]
  have n0 : ∀ a, s.heap.objs.size ≤ a → s.heap.get? a = none := fun a ha => Heap.get?_none_of_le ha
  have l1 : s.heap.objs.size < (s.heap.push o).objs.size := by rw [e1]; exact Nat.lt_succ_self _
  have l2 : s.heap.objs.size < H2.objs.size := by rw [e2]; exact Nat.lt_add_of_pos_right (by decide)
  have l3 : (s.heap.push o).objs.size < H2.objs.size := by rw [e1, e2]; exact Nat.lt_succ_self _
  have hD : H2.get? (s.heap.push o).objs.size = some { cls := .type "list", dict := none, data := .seq ([] : List Value).toArray } := by rw [← hH2]; exact Heap.get?_push_size _ rfl
  have up1 : Up (s.heap.push o) h₁ := fun b o' z => hsb₁.extBut b o' (Nat.ne_of_lt (Nat.lt_trans (Heap.lt_size z) l3)) (Heap.get?_push_of_some _ (hH2 ▸ Heap.get?_push_of_some _ z))
  have up0 : Up s.heap h₁ := (Up.push o).tr up1
  have hCne : ∀ a, s.heap.objs.size ≤ a → a ∉ mutOf e ∧ a ∉ B.hid := fun a ha => F.fresh ha
  have loop : ∀ s₃ : Shared, s₃ = { s with heap := h₁, toks := s.toks + ([] : List (Str × Value)).length } →
      codeAny (model pw w) A (.compLoop (.ListComp elt [⟨.Name x px, iter, ifs, 0⟩] scope pos) 0 (.ref s.heap.objs.size) (.ref (s.heap.push o).objs.size) (compEnvC scope (closL e.cells scope.names []) H2.objs.size e))
        (RR (.ref (s.heap.push o).objs.size) H2.objs.size) s₃ := by
    rintro s₃ rfl
    refine comp_core (s := { s with heap := h₁, toks := s.toks + ([] : List (Str × Value)).length }) hV W hpres hfp hsz hk hc hnn hfr hx hxl F up0 (n0 _ (Nat.le_refl _)) (n0 _ (Nat.le_of_lt l1)) (n0 _ (Nat.le_of_lt l2)) (Nat.le_refl _) (Nat.le_of_lt l1) (Nat.le_of_lt l2) (Nat.ne_of_lt l1) (Nat.ne_of_lt l2) (Nat.ne_of_lt l3)
      (W.frame _ _ _ hst fun b _ o z => up1 b o z) ⟨_, hsb₁.extBut _ _ (Nat.ne_of_lt l3) (Heap.get?_push_of_some _ hD), rfl, _, rfl⟩ hns₁ body fun ys g' h' tk ug v kk kD kC u l sel m => ?_
    exact hR ys g' h' tk _ _ (hCne _ (Nat.le_of_lt l1)).1 (hCne _ (Nat.le_of_lt l1)).2 (hCne _ (Nat.le_of_lt l2)).1 (hCne _ (Nat.le_of_lt l2)).2 (Nat.ne_of_gt l3) ug v kk kC u (n0 _ (Nat.le_of_lt l2)) l sel m
  exact codeAny_compStart_list (loop _ rfl) (W.self 0 _ _ _ (W.frame _ _ _ hst fun b _ o z => up1 b o z) (loop _ rfl))

theorem EvF.listComp {elt iter : Expr} {x : Str} {px : Pos} {ifs : List Expr} {scope : Scope} {K : Heap → Value → Prop} {Wl : Heap → List Value → Prop} (ix : Nat) (hA : A.handled = Option.none) (hit : EvF w A e sc B vals g₀ iter K)
    (cv : List (Option Value)) (hcv : compVals (relabelS scope sc) sc vals = cv) (hx : nmAt (relabelS scope sc) x = some (ix, .local)) (hnn : (scope.names.map (·.1)).Nodup) (hc : ∀ y ∈ scope.names, y.2 ≠ .cell)
    (hfr : ∀ y ∈ scope.names, y.2 = NameKind.free → sc.names.lookup y.1 = some .cell) (hk : scope.kind = .function)
    (h : ∀ g v, Up g₀ g → K g v → ∃ n Pv p V, (∀ i, Mono (V i)) ∧ Iter w (.Name x px) g v n Pv ∧ n ≤ sizeLine ∧ CompBody w A sc scope cv g ix ifs elt n Pv p V ∧ (∀ g' ys, Up g g' → Sel p V g' n ys → Wl g' ys))
    (hs : ∀ x, foldedSetIterable iter e x = pure x := by intro _; rfl) :
    EvF w A e sc B vals g₀ (.ListComp elt [⟨.Name x px, iter, ifs, 0⟩] scope pos) (fun g v => ∃ ys, IsLst g v ys ∧ Wl g ys) := .mk fun s g Q E u F k => by
  subst hcv
  have hxl := compVals_lt (vals := vals) (sc := sc) hx
  have hfr' : ∀ n, (n, NameKind.free) ∈ scope.names → sc.names.lookup n = some .cell := fun n hn => hfr _ hn rfl
  rw [eval_ListComp]
  refine wpAny_comprehension_free (use := Option.none) rfl hs (comp_clos F hfr') hk (names_local hnn) (hit.run s g _ _ u F fun v g₁ h₁ tk₁ u₁ ug₁ F₁ hK => ?_)
  obtain ⟨n, Pv, p, V, hV, it, hsz, body, hW⟩ := h g₁ v (u.tr ug₁) hK
  refine it.run A { s with heap := h₁, toks := tk₁ } _ _ hA F₁.vis fun o fp St ho W hpres hfp _ hst => ?_
  refine comp_block (s := { s with heap := h₁, toks := tk₁ }) (RR := fun acc C => compPost (model pw w) A E Option.none Q acc C) hV W ho hpres hfp hsz hk hc hnn hfr' hx hxl F₁ hst body ?_
  intro ys g' h' tk D C hDm hDh hCm hCh hCD ug v' kk kC uH hC0 l sel m
  obtain ⟨m, hm⟩ := m
  refine ⟨m, hm, fun h'' hs'' => ?_⟩
  have up : Up h₁ h'' := fun b o z => (hs''.2 b (fun q => by rw [q] at z; rw [hC0] at z; cases z)).trans (uH b o z)
  have F₂ := F₁.up up
  obtain ⟨ug2, F₃⟩ := F₂.max
  have gg : Up g' (seeAll e B h'') := fun b o z => hideAll_get _ ((hs''.2 b (fun q => by rw [q, kC] at z; cases z)).trans (v' b o z)) fun mb => by rw [kk b mb] at z; cases z
  refine k _ _ h'' tk (u₁.tr up) (ug₁.tr ug2) F₃ ⟨ys, ⟨D, rfl, ?_⟩, hW _ _ ug2 (sel_up hV gg sel)⟩
  obtain ⟨o, ho', r⟩ := l
  exact ⟨o, seeAll_get ((hs''.2 D (Ne.symm hCD)).trans ho') hDm hDh, r⟩

/-- a comprehension that is stored under a name at once -/
theorem StF.assignComp {elt iter : Expr} {x y : Str} {px py : Pos} {ifs : List Expr} {scope : Scope} {K : Heap → Value → Prop} {Wl : Heap → List Value → Prop} {j : Nat} {kd : NameKind} (ix : Nat) (hA : A.handled = none) (hit : EvF w A e sc B vals g₀ iter K)
    (hn : nmAt sc y = some (j, kd)) (hkd : kd = .local ∨ kd = .cell) (hl : j < vals.length)
    (cv : List (Option Value)) (hcv : compVals (relabelS scope sc) sc vals = cv) (hx : nmAt (relabelS scope sc) x = some (ix, .local)) (hnn : (scope.names.map (·.1)).Nodup) (hc : ∀ y ∈ scope.names, y.2 ≠ .cell)
    (hfr : ∀ y ∈ scope.names, y.2 = NameKind.free → sc.names.lookup y.1 = some .cell) (hk : scope.kind = .function)
    (h : ∀ g v, Up g₀ g → K g v → ∃ n Pv p V, (∀ i, Mono (V i)) ∧ Iter w (.Name x px) g v n Pv ∧ n ≤ sizeLine ∧ CompBody w A sc scope cv g ix ifs elt n Pv p V ∧ (∀ g' ys, Up g g' → Sel p V g' n ys → Wl g' ys))
    (hsw : swapsWith (.ListComp elt [⟨.Name x px, iter, ifs, 0⟩] scope pos) (some (.Name y py)) pos'.line e = pure true)
    (hs : ∀ x, foldedSetIterable iter e x = pure x := by intro _; rfl) :
    StF w A e sc B vals g₀ (.Assign [.Name y py] (.ListComp elt [⟨.Name x px, iter, ifs, 0⟩] scope pos) pos') (fun g f v => f = .next ∧ ∃ z ys, IsLst g z ys ∧ Wl g ys ∧ v = setAt j (some z) vals) := .mk fun s g Q E u F k => by
  subst hcv
  have hxl := compVals_lt (vals := vals) (sc := sc) hx
  have hfr' : ∀ n, (n, NameKind.free) ∈ scope.names → sc.names.lookup n = some .cell := fun n hn => hfr _ hn rfl
  rw [exec_Assign_Name_used _ _ _ _ hsw]
  refine wpAny_bind (wpAny_standAt (wpAny_bind ?_))
  show wpAny _ A (do let _ ← comprehension (.ListComp elt [⟨.Name x px, iter, ifs, 0⟩] scope pos) scope e _ (newList []) false (eval iter e) (some (PySem.assign (.Name y py) e))) _ _ s
  refine wpAny_bind (wpAny_mono (wpAny_comprehension_free (use := some (PySem.assign (.Name y py) e)) (Q := fun _ s' => Q .next s') rfl hs (comp_clos F hfr') hk (names_local hnn) (hit.run s g _ _ u F fun v g₁ h₁ tk₁ u₁ ug₁ F₁ hK => ?_))
    (fun _ s' hq => wpAny_pure (wpAny_pure hq)) fun _ _ e => e)
  obtain ⟨n, Pv, p, V, hV, it, hsz, body, hW⟩ := h g₁ v (u.tr ug₁) hK
  refine it.run A { s with heap := h₁, toks := tk₁ } _ _ hA F₁.vis fun o fp St ho W hpres hfp _ hst => ?_
  refine comp_block (s := { s with heap := h₁, toks := tk₁ }) (RR := fun acc C => compPost (model pw w) A E (some (PySem.assign (.Name y py) e)) (fun _ s' => Q .next s') acc C) hV W ho hpres hfp hsz hk hc hnn hfr' hx hxl F₁ hst body ?_
  intro ys g' h' tk D C hDm hDh hCm hCh hCD ug v' kk kC uH hC0 l sel m
  obtain ⟨m, hm⟩ := m
  have F₂ := F₁.up uH
  show wpAny _ A (PySem.assign (.Name y py) e (.ref D)) _ _ _
  refine wpAny_assign_Name ?_
  have fin : ∀ h₂ tk₂, Fz e sc B g₁ h₂ (setAt j (some (.ref D)) vals) → (∀ b o, b ∉ mutOf e → h'.get? b = some o → h₂.get? b = some o) → ∃ m, h₂.Ns C m ∧ ∀ h'', Heap.SameBut C h₂ h'' → Q .next { s with heap := h'', toks := tk₂ } := fun h₂ tk₂ F₃ k₃ => by
    refine ⟨m, ns_at hm fun o => k₃ C o hCm, fun h'' hs'' => ?_⟩
    have gC : g₁.get? C = none := F₁.vis.none hC0
    have F₄ : Fz e sc B g₁ h'' (setAt j (some (.ref D)) vals) := F₃.but hCm (.inl hCh) (F₁.keep.none hC0) gC fun b o hb q => (hs''.2 b hb).trans q
    obtain ⟨ug2, F₅⟩ := F₄.max
    have gg : Up g' (seeAll e B h'') := fun b o z => hideAll_get _ ((hs''.2 b (fun q => by rw [q, kC] at z; cases z)).trans (k₃ b o (fun mb => by rw [kk b (List.mem_append_left _ mb)] at z; cases z) (v' b o z))) fun mb => by rw [kk b mb] at z; cases z
    refine k .next _ h'' tk₂ _ (ug₁.tr ug2) F₅ ⟨rfl, _, ys, ⟨D, rfl, ?_⟩, hW _ _ ug2 (sel_up hV gg sel), rfl⟩
    obtain ⟨o, ho', r⟩ := l
    exact ⟨o, seeAll_get ((hs''.2 D (Ne.symm hCD)).trans (k₃ D o hDm ho')) hDm hDh, r⟩
  rcases hkd with rfl | rfl
  · exact stL (s := { s with heap := h', toks := tk }) F₂ hn hl fun h₂ tk₂ F₃ k₃ _ => fin h₂ tk₂ F₃ fun b o hb => k₃ b o fun z => hb (z ▸ Fz.locals_mem)
  · exact stC (s := { s with heap := h', toks := tk }) F₂ hn hl fun h₂ tk₂ F₃ k₃ _ => fin h₂ tk₂ F₃ k₃
end
end Mine

end

section
open PySem PySem.W PyProof.Rows PySem.Calls
set_option Elab.async false
set_option linter.unusedVariables false
set_option maxRecDepth 100000
namespace Mine

/-! ## texts: heads, ends, places -/
def startsT (l m : List Nat) : Bool := decide (m.length ≤ l.length) && (l.take m.length == m)
def endsT (l m : List Nat) : Bool := decide (m.length ≤ l.length) && ((l.drop (l.length - m.length)).take m.length == m)
def findT (l : List Nat) (c : Nat) : Int := if c ∈ l then (l.findIdx (· == c) : Nat) else -1
theorem T_starts (l m : List Nat) : Txt.startswith (T l) (T m) = startsT l m := by
  unfold Txt.startswith startsT
  rw [StrLaws.subAt_eq, T_cps, T_cps, T_len, T_len, Nat.zero_add, List.drop_zero]
theorem T_ends (l m : List Nat) : Txt.endswith (T l) (T m) = endsT l m := by
  unfold Txt.endswith endsT
  rw [StrLaws.subAt_eq, T_cps, T_cps, T_len, T_len, Nat.zero_add]
theorem T_find (l : List Nat) (c : Nat) : Txt.find (T l) (T [c]) = findT l c := by
  unfold Txt.find findT
  have at_iff : ∀ i, StrLaws.At (T l) (T [c]) (T l).length i ↔ l[i]? = some c := fun i => by
    have := StrLaws.subAt_one (T l) c i
    rw [T_cps] at this
    exact this
  rcases StrLaws.occ_head (T l) (T [c]) 1 (Nat.le_refl _) with ⟨h0, h1⟩ | ⟨i, r, h0, h1, h2⟩
  · rw [h0]
    have : c ∉ l := fun m => by
      obtain ⟨i, hi, e⟩ := List.mem_iff_getElem.mp m
      exact h1 i ((at_iff i).mpr (by rw [List.getElem?_eq_getElem hi, e]))
    rw [if_neg this]
  · rw [h0]
    have h1' := (at_iff i).mp h1
    obtain ⟨hi, e⟩ := List.getElem?_eq_some_iff.mp h1'
    rw [if_pos (e ▸ List.getElem_mem hi)]
    have : l.findIdx (· == c) = i := by
      rw [List.findIdx_eq hi]
      refine ⟨by simp [e], fun j hj => ?_⟩
      have := h2 j hj
      rw [at_iff] at this
      have hj' : j < l.length := by omega
      rw [List.getElem?_eq_getElem hj'] at this
      simpa using this
    show (i : Int) = _
    rw [this]

section
variable {w : World} {A : Around} {E : Value → Shared → Prop} {s : Shared} {e : Env} {sc : Scope} {B : Base} {g g₀ : Heap} {vals : List (Option Value)} {pos : Pos} {rest : List Stmt} {P : PostT}

/-- a text's method -/
theorem EvF.strM {o : Expr} {name : Str} {p : Pos} {ts : List Expr} {id : String} {x : List Nat} {V : Heap → List Value → Prop} {W : Heap → Value → Prop} {pl : Sem Bool} (ho : EvF w A e sc B vals g₀ o (VT x))
    (hg : ∀ (s : Shared) y t (Q : Value × List Value → Shared → Prop) E, Q (.builtin id, [.str y t]) s → wpAny (model pw w) A (getMethod (.str y t) name pl) Q E s) (ha : EvL w A e sc B vals g₀ pos ts V)
    (hc : ∀ g t vs, Up g₀ g → V g vs → CallB w A e sc B vals g (.builtin id) (.str (T x) t :: vs) W)
    (hp : (backTo pos (starEach ts e)).any (·.1) = false := by rfl)
    (he : eval (.Call (.Attribute o name p) ts [] pos) e = (do
      let ov ← eval o e
      standAt p.atName
      let (f, first) ← holding [ov] (getMethod ov name pl)
      callWith pos f first (backTo pos (starEach ts e)) []) := by rfl) :
    EvF w A e sc B vals g₀ (.Call (.Attribute o name p) ts [] pos) W := .mk fun s g Q E u F h => by
  refine MethodCall_ (ho.run s g _ E u F fun v g₁ h₁ tk₁ u₁ ug₁ F₁ ⟨t, hv⟩ => ?_) he
  subst hv
  refine hg { s with heap := h₁, toks := tk₁ } (T x) t _ E ?_
  refine Calls.callWith_builtin hp (evalArgs_any hp (ha.run { s with heap := h₁, toks := tk₁ } g₁ _ E (u.tr ug₁) F₁ fun vs g₂ h₂ tk₂ u₂ ug₂ F₂ hvs => ?_))
  show wpAny _ _ (call (.builtin id) (.str (T x) t :: vs) []) Q E _
  exact hc g₂ t vs ((u.tr ug₁).tr ug₂) hvs { s with heap := h₂, toks := tk₂ } Q E F₂ fun v g₃ h₃ tk₃ u₃ ug₃ F₃ hv => h v g₃ h₃ tk₃ ((u₁.tr u₂).tr u₃) ((ug₁.tr ug₂).tr ug₃) F₃ hv

theorem EvF.startswith {o y : Expr} {p : Pos} {l m : List Nat} {pl : Sem Bool} (ho : EvF w A e sc B vals g₀ o (VT l)) (hy : EvF w A e sc B vals g₀ y (VT m))
    (h1 : starEach [y] e = (false, eval y e) :: starEach [] e := by rfl) (hp : (backTo pos (starEach [y] e)).any (·.1) = false := by rfl)
    (he : eval (.Call (.Attribute o "startswith" p) [y] [] pos) e = (do
      let ov ← eval o e
      standAt p.atName
      let (f, first) ← holding [ov] (getMethod ov "startswith" pl)
      callWith pos f first (backTo pos (starEach [y] e)) []) := by rfl) : EvF w A e sc B vals g₀ (.Call (.Attribute o "startswith" p) [y] [] pos) (VB (startsT l m)) :=
  EvF.strM ho (fun _ _ _ _ _ k => GM.startswith k) (EvL.one hy Mono.vs h1) (fun g t vs _ ⟨v, e1, t', e2⟩ s Q E F k => by
    subst e1 e2
    refine SC.startswith ?_
    rw [T_starts]
    exact k _ g s.heap s.toks Up.rfl' Up.rfl' F rfl) hp he
theorem EvF.endswith {o y : Expr} {p : Pos} {l m : List Nat} {pl : Sem Bool} (ho : EvF w A e sc B vals g₀ o (VT l)) (hy : EvF w A e sc B vals g₀ y (VT m))
    (h1 : starEach [y] e = (false, eval y e) :: starEach [] e := by rfl) (hp : (backTo pos (starEach [y] e)).any (·.1) = false := by rfl)
    (he : eval (.Call (.Attribute o "endswith" p) [y] [] pos) e = (do
      let ov ← eval o e
      standAt p.atName
      let (f, first) ← holding [ov] (getMethod ov "endswith" pl)
      callWith pos f first (backTo pos (starEach [y] e)) []) := by rfl) : EvF w A e sc B vals g₀ (.Call (.Attribute o "endswith" p) [y] [] pos) (VB (endsT l m)) :=
  EvF.strM ho (fun _ _ _ _ _ k => GM.endswith k) (EvL.one hy Mono.vs h1) (fun g t vs _ ⟨v, e1, t', e2⟩ s Q E F k => by
    subst e1 e2
    refine SC.endswith ?_
    rw [T_ends]
    exact k _ g s.heap s.toks Up.rfl' Up.rfl' F rfl) hp he
theorem EvF.find1 {o y : Expr} {p : Pos} {l : List Nat} {c : Nat} {pl : Sem Bool} (ho : EvF w A e sc B vals g₀ o (VT l)) (hy : EvF w A e sc B vals g₀ y (VT [c]))
    (h1 : starEach [y] e = (false, eval y e) :: starEach [] e := by rfl) (hp : (backTo pos (starEach [y] e)).any (·.1) = false := by rfl)
    (he : eval (.Call (.Attribute o "find" p) [y] [] pos) e = (do
      let ov ← eval o e
      standAt p.atName
      let (f, first) ← holding [ov] (getMethod ov "find" pl)
      callWith pos f first (backTo pos (starEach [y] e)) []) := by rfl) : EvF w A e sc B vals g₀ (.Call (.Attribute o "find" p) [y] [] pos) (VI (findT l c)) :=
  EvF.strM ho (fun _ _ _ _ _ k => GM.find k) (EvL.one hy Mono.vs h1) (fun g t vs _ ⟨v, e1, t', e2⟩ s Q E F k => by
    subst e1 e2
    refine SC.find ?_
    rw [T_find]
    exact k _ g s.heap _ Up.rfl' Up.rfl' F ⟨_, rfl⟩) hp he

/-! ### minus one, the last sign, the text turned round -/
theorem EvF.neg {x : Expr} {i : Int} (h : EvF w A e sc B vals g₀ x (VI i)) : EvF w A e sc B vals g₀ (.UnaryOp .USub x pos) (VI (-i)) := .mk fun s g Q E u F k =>
  UnaryOp_ (h.run s g _ E u F fun v g' h' tk u' ug F' ⟨t, hv⟩ => by
    subst hv
    exact neg_int (k _ g' h' _ u' ug F' ⟨_, rfl⟩))
theorem T_last {l : List Nat} (h : 0 < l.length) : Txt.item (T l) (-1) = T [l.getD (l.length - 1) 0] := by
  unfold Txt.item Txt.charAt seqIndex?
  have e1 : (if ((-1 : Int) < 0) then (-1 : Int) + ((T l).length : Int) else -1) = (l.length : Int) - 1 := by
    rw [if_pos (by decide), T_len]; omega
  rw [e1]
  have e2 : (decide (0 ≤ (l.length : Int) - 1) && decide ((l.length : Int) - 1 < ((T l).length : Int))) = true := by
    rw [T_len]; simp; omega
  rw [if_pos e2]
  have e3 : ((l.length : Int) - 1).toNat = l.length - 1 := by omega
  rw [e3]
  have hl : l.length - 1 < l.length := by omega
  simp [T, hl]
theorem EvF.lastT {v i : Expr} {x : List Nat} (hv : EvF w A e sc B vals g₀ v (VT x)) (hi : EvF w A e sc B vals g₀ i (VI (-1))) (hk : 0 < x.length) (hx : x.length ≤ sizeLine)
    (hs : ∀ y t k u, subscripted i false (.str y t) (.int k u) = operate [.str y t, .int k u] (getItem (.str y t) (.int k u)) := by intro _ _ _ _; with_unfolding_all rfl)
    (ht : ∀ y t r, letTemporaryGo v (.str y t) r = pure () := by intro _ _ _; with_unfolding_all rfl) : EvF w A e sc B vals g₀ (.Subscript v i pos) (VT [x.getD (x.length - 1) 0]) :=
  EvF.sub hv Mono.vs hi fun g _ _ _ ⟨t, e1⟩ ⟨u, e2⟩ s Q E F h => by
    subst e1 e2
    refine KXi.item rfl (by rw [T_len]; omega) (by omega) (by rw [T_len]; rw [sizeLine_eq] at hx; exact hx) (fun _ => ?_) (hs _ _ _ _) (ht _ _)
    rw [T_last hk]
    exact h _ g s.heap _ Up.rfl' Up.rfl' F ⟨_, rfl⟩
theorem T_rev (l : List Nat) (u : Tok) : Txt.sliceBy (T l) Option.none Option.none (-1, u) = T l.reverse := by
  have h := step_rev_list (T l) u
  have e : ((List.range (T l).length).map fun k => (T l).cps.getD ((T l).length - 1 - k) 0) = l.reverse := by
    rw [T_len]
    apply List.ext_getElem (by simp)
    intro i h1 h2
    have hi : i < l.length := by simpa using h2
    have hj : l.length - 1 - i < l.length := by omega
    simp [T, List.getElem_reverse, hj]
  rw [T_of (Txt.sliceBy (T l) Option.none Option.none (-1, u)), h, e]
theorem EvF.revT {v st : Expr} {p : Pos} {x : List Nat} (hv : EvF w A e sc B vals g₀ v (VT x)) (hst : EvF w A e sc B vals g₀ st (VI (-1))) (hx : x.length ≤ sizeLine)
    (hs : ∀ y t a, subscripted (.Slice Option.none Option.none (some st) p) false (.str y t) (.ref a) = operate [.ref a, .str y t] (getItem (.str y t) (.ref a)) := by intro _ _ _; with_unfolding_all rfl)
    (ht : ∀ y t r, letTemporaryGo v (.str y t) r = pure () := by intro _ _ _; with_unfolding_all rfl) : EvF w A e sc B vals g₀ (.Subscript v (.Slice Option.none Option.none (some st) p) pos) (VT x.reverse) := by
  have S : EvF w A e sc B vals g₀ (.Slice Option.none Option.none (some st) p) (fun g y => ∃ a u, y = .ref a ∧ g.get? a = some { cls := .type "slice", data := .fields #[.none, .none, .int (-1) u] }) := .mk fun s g Q E u F h =>
    wpAny_Slice (EvP.nil.run s g _ E u F fun _ g₁ h₁ tk₁ u₁ ug₁ F₁ => EvP.nil.run { s with heap := h₁, toks := tk₁ } g₁ _ E (u.tr ug₁) F₁ fun _ g₂ h₂ tk₂ u₂ ug₂ F₂ =>
      (EvP.val hst).run { s with heap := h₂, toks := tk₂ } g₂ _ E ((u.tr ug₁).tr ug₂) F₂ fun k g₃ h₃ tk₃ u₃ ug₃ F₃ => by
        obtain ⟨g₄, ug₄, F₄, hg⟩ := F₃.new { cls := .type "slice", data := .fields #[.none, .none, .int (-1) k] } rfl
        exact h _ g₄ _ tk₃ ((u₁.tr (u₂.tr u₃)).tr (Up.push _)) (ug₁.tr (ug₂.tr (ug₃.tr ug₄))) F₄ ⟨_, k, rfl, hg⟩)
  refine EvF.sub hv Mono.vs S fun g _ _ _ ⟨t, e1⟩ ⟨a, u, e2, hg⟩ s Q E FF h => ?_
  subst e1 e2
  refine tail_of_ItemOn ⟨"str", _, PySem.F.slot_str_getitem.lookup, typeIs_str _ _ _, wpAny_getItem_str_slice (l := Option.none) (u := Option.none) (st := some (-1, u)) ⟨_, FF.vis _ _ hg, rfl, rfl⟩ rfl ?_⟩ (hs _ _ _) (ht _ _)
  have hle : (Txt.sliceBy (T x) Option.none Option.none (-1, u)).length ≤ sizeLine := by rw [T_rev, T_len, List.length_reverse]; exact hx
  refine post_val_or_str ⟨hle, fun t' c => ?_⟩
  have := T_rev x u
  unfold Txt.sliceBy at this
  exact h _ g s.heap c Up.rfl' Up.rfl' FF ⟨t', by rw [← this]⟩

theorem EvF.cellT {x : Str} {i : Nat} {l : List Nat} {t : Tok} {p : Pos} (hn : nmAt sc x = some (i, .cell)) (hv : at' vals i = some (.str (T l) t)) (hd : (x == ("__debug__" : Str)) = false := by decide +kernel) : EvF w A e sc B vals g₀ (.Name x p) (VT l) :=
  (EvF.cell hn hv hd).weak fun _ _ _ e => ⟨t, e⟩

/-- ints in a row -/
def IntsOf (ns : List Int) (ys : List Value) : Prop := All2 (fun n y => ∃ t, y = .int n t) ns ys
theorem ints_items {ns : List Int} {ys : List Value} (h : IntsOf ns ys) : ∃ xs : List (Int × Tok), xs.map (·.1) = ns ∧ ys.toArray = intItems xs.toArray := by
  induction h with
  | nil => exact ⟨[], rfl, by simp [intItems]⟩
  | cons a _ ih =>
    obtain ⟨t, rfl⟩ := a
    obtain ⟨xs, e1, e2⟩ := ih
    refine ⟨(_, t) :: xs, by rw [List.map_cons, e1], ?_⟩
    have e3 := congrArg Array.toList e2
    apply Array.toList_inj.mp
    simp [intItems] at e3 ⊢
    exact e3
theorem EvF.minL {f : Str} {p : Pos} {x : Expr} {ns : List Int} (hA : A.handled = Option.none) (hf : EvF w A e sc B vals g₀ (.Name f p) (fun _ v => v = .builtin "min")) (ha : EvF w A e sc B vals g₀ x (fun g v => ∃ ys, IsLst g v ys ∧ IntsOf ns ys)) (hne : ns ≠ [])
    (he : starEach [x] e = (false, eval x e) :: starEach [] e := by rfl) (hp : (backTo pos (starEach [x] e)).any (·.1) = false := by rfl) :
    EvF w A e sc B vals g₀ (.Call (.Name f p) [x] [] pos) (fun _ v => ∃ M t, v = .int M t ∧ M ∈ ns ∧ ∀ a ∈ ns, M ≤ a) :=
  EvF.callB hf (EvL.one ha (fun g g' v u ⟨ys, h, i⟩ => ⟨ys, h.up u, i⟩) he) (fun g vs _ ⟨v, e1, ys, ⟨a, e2, hl⟩, hi⟩ s Q E FF k => by
    subst e1 e2
    obtain ⟨xs, e3, e4⟩ := ints_items hi
    have hl' : s.heap.IsList a (intItems xs.toArray) := e4 ▸ (let ⟨o, ho, r⟩ := hl; ⟨o, FF.vis _ _ ho, r⟩)
    have hlen : 0 < xs.length := by
      cases xs with
      | nil => exact absurd e3.symm hne
      | cons _ _ => simp
    refine min_intList hA hl' (by simpa using hlen) fun v h' tk hv hk => ?_
    obtain ⟨t, rfl⟩ := intItems_at hv
    obtain ⟨h1, h2⟩ := argBest_lt (numAt xs.toArray) (xs.toArray.size - 1)
    have num : ∀ j, j < xs.length → ns[j]? = some (numAt xs.toArray j) := fun j hj => by
      rw [← e3]; unfold numAt; simp [hj]
    refine k _ g h' tk hk Up.rfl' (FF.up hk) ⟨_, t, rfl, ?_, fun a ha => ?_⟩
    · refine List.mem_of_getElem? (num _ ?_)
      rw [List.size_toArray] at h1; rw [List.size_toArray]; omega
    · obtain ⟨j, hj, e5⟩ := List.mem_iff_getElem.mp ha
      have hj' : j < xs.length := by rw [← e3, List.length_map] at hj; exact hj
      have := num j hj'
      rw [List.getElem?_eq_getElem hj, e5] at this
      cases this
      exact h2 j (by rw [List.size_toArray]; omega)) hp

/-- texts in a row -/
def StrsOf (ls : List (List Nat)) (vs : List Value) : Prop := All2 (fun l v => ∃ t, v = .str (T l) t) ls vs
theorem EvL.strs {ls : List (List Nat)} {ts : List Expr} (h : All2 (fun l t => ∃ k p x, t = .Constant (.str x) k p ∧ x = T l) ls ts) : EvL w A e sc B vals g₀ pos ts (fun _ vs => StrsOf ls vs) := by
  induction h with
  | nil => exact EvL.nil.weak fun _ _ _ e => by subst e; exact .nil
  | cons a _ ih =>
    obtain ⟨k, p, x, rfl, rfl⟩ := a
    exact (EvL.cons EvF.str Mono.vs ih).weak fun _ _ _ ⟨v, us, e, h1, h2⟩ => by subst e; exact .cons h1 h2
theorem strs_up {ls : List (List Nat)} : ∀ g g' vs, Up g g' → StrsOf ls vs → StrsOf ls vs := fun _ _ _ _ h => h
end
end Mine

end

section
open PySem PySem.W PyProof.Rows PySem.Calls
set_option Elab.async false
set_option linter.unusedVariables false
namespace Mine

theorem nS1_text : nmAt (scopeOf (stt 1)) "text" = some (0, .local) := by decide +kernel
theorem nS1_place : nmAt (scopeOf (stt 1)) "place" = some (1, .local) := by decide +kernel
theorem nS1_sign : nmAt (scopeOf (stt 1)) "sign" = some (2, .local) := by decide +kernel
theorem nS1_len : nmAt (scopeOf (stt 1)) "len" = some (3, .globalImplicit) := by decide +kernel
theorem ndS1 : ((scopeOf (stt 1)).names.map (·.1)).Nodup := by decide +kernel
theorem fnS1 : (scopeOf (stt 1)).kind = .function ∧ (scopeOf (stt 1)).isCoroutine = false ∧ (scopeOf (stt 1)).isGenerator = false := by decide +kernel
theorem nS2_sign : nmAt (scopeOf (stt 2)) "sign" = some (0, .local) := by decide +kernel
theorem ndS2 : ((scopeOf (stt 2)).names.map (·.1)).Nodup := by decide +kernel
theorem fnS2 : (scopeOf (stt 2)).kind = .function ∧ (scopeOf (stt 2)).isCoroutine = false ∧ (scopeOf (stt 2)).isGenerator = false := by decide +kernel
theorem nS3_line : nmAt (scopeOf (stt 3)) "line" = some (0, .local) := by decide +kernel
theorem nS3_k : nmAt (scopeOf (stt 3)) "k" = some (1, .local) := by decide +kernel
theorem nS3_p : nmAt (scopeOf (stt 3)) "p" = some (2, .local) := by decide +kernel
theorem nS3_q : nmAt (scopeOf (stt 3)) "q" = some (3, .local) := by decide +kernel
theorem nS3_r : nmAt (scopeOf (stt 3)) "r" = some (4, .local) := by decide +kernel
theorem nS3__word_run : nmAt (scopeOf (stt 3)) "_word_run" = some (5, .globalImplicit) := by decide +kernel
theorem nS3_len : nmAt (scopeOf (stt 3)) "len" = some (6, .globalImplicit) := by decide +kernel
theorem nS3__is_figure : nmAt (scopeOf (stt 3)) "_is_figure" = some (7, .globalImplicit) := by decide +kernel
theorem nS3_int : nmAt (scopeOf (stt 3)) "int" = some (8, .globalImplicit) := by decide +kernel
theorem ndS3 : ((scopeOf (stt 3)).names.map (·.1)).Nodup := by decide +kernel
theorem fnS3 : (scopeOf (stt 3)).kind = .function ∧ (scopeOf (stt 3)).isCoroutine = false ∧ (scopeOf (stt 3)).isGenerator = false := by decide +kernel
theorem nS7_word : nmAt (scopeOf (stt 7)) "word" = some (0, .local) := by decide +kernel
theorem nS7__standard : nmAt (scopeOf (stt 7)) "_standard" = some (1, .globalImplicit) := by decide +kernel
theorem ndS7 : ((scopeOf (stt 7)).names.map (·.1)).Nodup := by decide +kernel
theorem fnS7 : (scopeOf (stt 7)).kind = .function ∧ (scopeOf (stt 7)).isCoroutine = false ∧ (scopeOf (stt 7)).isGenerator = false := by decide +kernel
theorem ndS10 : ((scopeOf (stt 10)).names.map (·.1)).Nodup := by decide +kernel
theorem fnS10 : (scopeOf (stt 10)).kind = .function ∧ (scopeOf (stt 10)).isCoroutine = false ∧ (scopeOf (stt 10)).isGenerator = false := by decide +kernel
theorem ndS11 : ((scopeOf (stt 11)).names.map (·.1)).Nodup := by decide +kernel
theorem fnS11 : (scopeOf (stt 11)).kind = .function ∧ (scopeOf (stt 11)).isCoroutine = false ∧ (scopeOf (stt 11)).isGenerator = false := by decide +kernel
theorem nS12_script : nmAt (scopeOf (stt 12)) "script" = some (0, .local) := by decide +kernel
theorem nS12_at : nmAt (scopeOf (stt 12)) "at" = some (1, .local) := by decide +kernel
theorem nS12_len : nmAt (scopeOf (stt 12)) "len" = some (2, .globalImplicit) := by decide +kernel
theorem nS12_abs : nmAt (scopeOf (stt 12)) "abs" = some (3, .globalImplicit) := by decide +kernel
theorem ndS12 : ((scopeOf (stt 12)).names.map (·.1)).Nodup := by decide +kernel
theorem fnS12 : (scopeOf (stt 12)).kind = .function ∧ (scopeOf (stt 12)).isCoroutine = false ∧ (scopeOf (stt 12)).isGenerator = false := by decide +kernel
theorem nS13_number : nmAt (scopeOf (stt 13)) "number" = some (0, .local) := by decide +kernel
theorem nS13_size : nmAt (scopeOf (stt 13)) "size" = some (1, .local) := by decide +kernel
theorem nS13_text : nmAt (scopeOf (stt 13)) "text" = some (2, .local) := by decide +kernel
theorem nS13_turn : nmAt (scopeOf (stt 13)) "turn" = some (3, .local) := by decide +kernel
theorem nS13_range : nmAt (scopeOf (stt 13)) "range" = some (4, .globalImplicit) := by decide +kernel
theorem nS13__law_letters : nmAt (scopeOf (stt 13)) "_law_letters" = some (5, .globalImplicit) := by decide +kernel
theorem ndS13 : ((scopeOf (stt 13)).names.map (·.1)).Nodup := by decide +kernel
theorem fnS13 : (scopeOf (stt 13)).kind = .function ∧ (scopeOf (stt 13)).isCoroutine = false ∧ (scopeOf (stt 13)).isGenerator = false := by decide +kernel
theorem nS14_number : nmAt (scopeOf (stt 14)) "number" = some (0, .local) := by decide +kernel
theorem nS14_size : nmAt (scopeOf (stt 14)) "size" = some (1, .local) := by decide +kernel
theorem nS14_ending : nmAt (scopeOf (stt 14)) "ending" = some (2, .local) := by decide +kernel
theorem nS14_gone : nmAt (scopeOf (stt 14)) "gone" = some (3, .local) := by decide +kernel
theorem nS14_more : nmAt (scopeOf (stt 14)) "more" = some (4, .local) := by decide +kernel
theorem nS14__law_letter_row : nmAt (scopeOf (stt 14)) "_law_letter_row" = some (5, .globalImplicit) := by decide +kernel
theorem nS14_len : nmAt (scopeOf (stt 14)) "len" = some (6, .globalImplicit) := by decide +kernel
theorem ndS14 : ((scopeOf (stt 14)).names.map (·.1)).Nodup := by decide +kernel
theorem fnS14 : (scopeOf (stt 14)).kind = .function ∧ (scopeOf (stt 14)).isCoroutine = false ∧ (scopeOf (stt 14)).isGenerator = false := by decide +kernel
theorem nS15_rule : nmAt (scopeOf (stt 15)) "rule" = some (0, .local) := by decide +kernel
theorem nS15_number : nmAt (scopeOf (stt 15)) "number" = some (1, .local) := by decide +kernel
theorem nS15_ending : nmAt (scopeOf (stt 15)) "ending" = some (2, .local) := by decide +kernel
theorem nS15_alone : nmAt (scopeOf (stt 15)) "alone" = some (3, .local) := by decide +kernel
theorem nS15_gone : nmAt (scopeOf (stt 15)) "gone" = some (4, .local) := by decide +kernel
theorem nS15_more : nmAt (scopeOf (stt 15)) "more" = some (5, .local) := by decide +kernel
theorem nS15_on : nmAt (scopeOf (stt 15)) "on" = some (6, .local) := by decide +kernel
theorem nS15_row : nmAt (scopeOf (stt 15)) "row" = some (7, .local) := by decide +kernel
theorem ndS15 : ((scopeOf (stt 15)).names.map (·.1)).Nodup := by decide +kernel
theorem fnS15 : (scopeOf (stt 15)).kind = .function ∧ (scopeOf (stt 15)).isCoroutine = false ∧ (scopeOf (stt 15)).isGenerator = false := by decide +kernel
theorem nS16_row : nmAt (scopeOf (stt 16)) "row" = some (0, .local) := by decide +kernel
theorem nS16_head : nmAt (scopeOf (stt 16)) "head" = some (1, .cell) := by decide +kernel
theorem nS16_on : nmAt (scopeOf (stt 16)) "on" = some (2, .local) := by decide +kernel
theorem nS16_place : nmAt (scopeOf (stt 16)) "place" = some (3, .local) := by decide +kernel
theorem nS16_ending : nmAt (scopeOf (stt 16)) "ending" = some (4, .local) := by decide +kernel
theorem nS16_alone : nmAt (scopeOf (stt 16)) "alone" = some (5, .local) := by decide +kernel
theorem nS16_range : nmAt (scopeOf (stt 16)) "range" = some (6, .globalImplicit) := by decide +kernel
theorem nS16_len : nmAt (scopeOf (stt 16)) "len" = some (7, .globalImplicit) := by decide +kernel
theorem nS16_int : nmAt (scopeOf (stt 16)) "int" = some (8, .globalImplicit) := by decide +kernel
theorem ndS16 : ((scopeOf (stt 16)).names.map (·.1)).Nodup := by decide +kernel
theorem fnS16 : (scopeOf (stt 16)).kind = .function ∧ (scopeOf (stt 16)).isCoroutine = false ∧ (scopeOf (stt 16)).isGenerator = false := by decide +kernel
theorem nS17_script : nmAt (scopeOf (stt 17)) "script" = some (0, .local) := by decide +kernel
theorem nS17_at : nmAt (scopeOf (stt 17)) "at" = some (1, .local) := by decide +kernel
theorem nS17_rules : nmAt (scopeOf (stt 17)) "rules" = some (2, .local) := by decide +kernel
theorem nS17_start : nmAt (scopeOf (stt 17)) "start" = some (3, .local) := by decide +kernel
theorem nS17_number : nmAt (scopeOf (stt 17)) "number" = some (4, .local) := by decide +kernel
theorem nS17_word : nmAt (scopeOf (stt 17)) "word" = some (5, .local) := by decide +kernel
theorem nS17_k : nmAt (scopeOf (stt 17)) "k" = some (6, .local) := by decide +kernel
theorem nS17_pick : nmAt (scopeOf (stt 17)) "pick" = some (7, .local) := by decide +kernel
theorem nS17__law_take : nmAt (scopeOf (stt 17)) "_law_take" = some (8, .globalImplicit) := by decide +kernel
theorem nS17__law_starts : nmAt (scopeOf (stt 17)) "_law_starts" = some (9, .globalImplicit) := by decide +kernel
theorem nS17__law_letter_row : nmAt (scopeOf (stt 17)) "_law_letter_row" = some (10, .globalImplicit) := by decide +kernel
theorem nS17_len : nmAt (scopeOf (stt 17)) "len" = some (11, .globalImplicit) := by decide +kernel
theorem ndS17 : ((scopeOf (stt 17)).names.map (·.1)).Nodup := by decide +kernel
theorem fnS17 : (scopeOf (stt 17)).kind = .function ∧ (scopeOf (stt 17)).isCoroutine = false ∧ (scopeOf (stt 17)).isGenerator = false := by decide +kernel
theorem nS18_rules : nmAt (scopeOf (stt 18)) "rules" = some (0, .local) := by decide +kernel
theorem nS18_text : nmAt (scopeOf (stt 18)) "text" = some (1, .local) := by decide +kernel
theorem nS18_start : nmAt (scopeOf (stt 18)) "start" = some (2, .local) := by decide +kernel
theorem nS18_whole : nmAt (scopeOf (stt 18)) "whole" = some (3, .local) := by decide +kernel
theorem nS18_least : nmAt (scopeOf (stt 18)) "least" = some (4, .local) := by decide +kernel
theorem nS18_found : nmAt (scopeOf (stt 18)) "found" = some (5, .local) := by decide +kernel
theorem nS18_rule : nmAt (scopeOf (stt 18)) "rule" = some (6, .local) := by decide +kernel
theorem nS18__law_starts : nmAt (scopeOf (stt 18)) "_law_starts" = some (7, .globalImplicit) := by decide +kernel
theorem nS18_len : nmAt (scopeOf (stt 18)) "len" = some (8, .globalImplicit) := by decide +kernel
theorem ndS18 : ((scopeOf (stt 18)).names.map (·.1)).Nodup := by decide +kernel
theorem fnS18 : (scopeOf (stt 18)).kind = .function ∧ (scopeOf (stt 18)).isCoroutine = false ∧ (scopeOf (stt 18)).isGenerator = false := by decide +kernel
theorem nS19_table : nmAt (scopeOf (stt 19)) "table" = some (0, .local) := by decide +kernel
theorem nS19_PaiceHuskStemmer : nmAt (scopeOf (stt 19)) "PaiceHuskStemmer" = some (1, .globalImplicit) := by decide +kernel
theorem nS19_Exception : nmAt (scopeOf (stt 19)) "Exception" = some (2, .globalImplicit) := by decide +kernel
theorem ndS19 : ((scopeOf (stt 19)).names.map (·.1)).Nodup := by decide +kernel
theorem fnS19 : (scopeOf (stt 19)).kind = .function ∧ (scopeOf (stt 19)).isCoroutine = false ∧ (scopeOf (stt 19)).isGenerator = false := by decide +kernel
theorem nS20_script : nmAt (scopeOf (stt 20)) "script" = some (0, .cell) := by decide +kernel
theorem nS20_own : nmAt (scopeOf (stt 20)) "own" = some (1, .local) := by decide +kernel
theorem nS20_rules : nmAt (scopeOf (stt 20)) "rules" = some (2, .cell) := by decide +kernel
theorem nS20_made : nmAt (scopeOf (stt 20)) "made" = some (3, .local) := by decide +kernel
theorem nS20_rows : nmAt (scopeOf (stt 20)) "rows" = some (4, .local) := by decide +kernel
theorem nS20_fault : nmAt (scopeOf (stt 20)) "fault" = some (5, .local) := by decide +kernel
theorem nS20_table : nmAt (scopeOf (stt 20)) "table" = some (6, .local) := by decide +kernel
theorem nS20_turn : nmAt (scopeOf (stt 20)) "turn" = some (7, .local) := by decide +kernel
theorem nS20_at : nmAt (scopeOf (stt 20)) "at" = some (8, .local) := by decide +kernel
theorem nS20_word : nmAt (scopeOf (stt 20)) "word" = some (9, .local) := by decide +kernel
theorem nS20_due : nmAt (scopeOf (stt 20)) "due" = some (10, .local) := by decide +kernel
theorem nS20_side : nmAt (scopeOf (stt 20)) "side" = some (11, .local) := by decide +kernel
theorem nS20__law_take : nmAt (scopeOf (stt 20)) "_law_take" = some (12, .globalImplicit) := by decide +kernel
theorem nS20_defaultrules : nmAt (scopeOf (stt 20)) "defaultrules" = some (13, .globalImplicit) := by decide +kernel
theorem nS20_range : nmAt (scopeOf (stt 20)) "range" = some (14, .globalImplicit) := by decide +kernel
theorem nS20_len : nmAt (scopeOf (stt 20)) "len" = some (15, .globalImplicit) := by decide +kernel
theorem nS20__law_faults : nmAt (scopeOf (stt 20)) "_law_faults" = some (16, .globalImplicit) := by decide +kernel
theorem nS20__law_refused : nmAt (scopeOf (stt 20)) "_law_refused" = some (17, .globalImplicit) := by decide +kernel
theorem nS20_PaiceHuskStemmer : nmAt (scopeOf (stt 20)) "PaiceHuskStemmer" = some (18, .globalImplicit) := by decide +kernel
theorem nS20__law_word : nmAt (scopeOf (stt 20)) "_law_word" = some (19, .globalImplicit) := by decide +kernel
theorem nS20__law_stem : nmAt (scopeOf (stt 20)) "_law_stem" = some (20, .globalImplicit) := by decide +kernel
theorem nS20_stem : nmAt (scopeOf (stt 20)) "stem" = some (21, .globalImplicit) := by decide +kernel
theorem ndS20 : ((scopeOf (stt 20)).names.map (·.1)).Nodup := by decide +kernel
theorem fnS20 : (scopeOf (stt 20)).kind = .function ∧ (scopeOf (stt 20)).isCoroutine = false ∧ (scopeOf (stt 20)).isGenerator = false := by decide +kernel
theorem nM0_self : nmAt (scopeOf (mth 0)) "self" = some (0, .local) := by decide +kernel
theorem nM0_ruletable : nmAt (scopeOf (mth 0)) "ruletable" = some (1, .local) := by decide +kernel
theorem ndM0 : ((scopeOf (mth 0)).names.map (·.1)).Nodup := by decide +kernel
theorem fnM0 : (scopeOf (mth 0)).kind = .function ∧ (scopeOf (mth 0)).isCoroutine = false ∧ (scopeOf (mth 0)).isGenerator = false := by decide +kernel
theorem nM1_self : nmAt (scopeOf (mth 1)) "self" = some (0, .local) := by decide +kernel
theorem nM1_ruletable : nmAt (scopeOf (mth 1)) "ruletable" = some (1, .local) := by decide +kernel
theorem nM1_rules : nmAt (scopeOf (mth 1)) "rules" = some (2, .local) := by decide +kernel
theorem nM1_line : nmAt (scopeOf (mth 1)) "line" = some (3, .local) := by decide +kernel
theorem nM1_match : nmAt (scopeOf (mth 1)) "match" = some (4, .local) := by decide +kernel
theorem nM1_ending : nmAt (scopeOf (mth 1)) "ending" = some (5, .local) := by decide +kernel
theorem nM1_intact : nmAt (scopeOf (mth 1)) "intact" = some (6, .local) := by decide +kernel
theorem nM1_num : nmAt (scopeOf (mth 1)) "num" = some (7, .local) := by decide +kernel
theorem nM1_append : nmAt (scopeOf (mth 1)) "append" = some (8, .local) := by decide +kernel
theorem nM1_cont : nmAt (scopeOf (mth 1)) "cont" = some (9, .local) := by decide +kernel
theorem nM1_lastchar : nmAt (scopeOf (mth 1)) "lastchar" = some (10, .local) := by decide +kernel
theorem nM1__read_rule : nmAt (scopeOf (mth 1)) "_read_rule" = some (11, .globalImplicit) := by decide +kernel
theorem nM1_Exception : nmAt (scopeOf (mth 1)) "Exception" = some (12, .globalImplicit) := by decide +kernel
theorem ndM1 : ((scopeOf (mth 1)).names.map (·.1)).Nodup := by decide +kernel
theorem fnM1 : (scopeOf (mth 1)).kind = .function ∧ (scopeOf (mth 1)).isCoroutine = false ∧ (scopeOf (mth 1)).isGenerator = false := by decide +kernel
theorem nM2_self : nmAt (scopeOf (mth 2)) "self" = some (0, .local) := by decide +kernel
theorem nM2_word : nmAt (scopeOf (mth 2)) "word" = some (1, .cell) := by decide +kernel
theorem nM2_vp : nmAt (scopeOf (mth 2)) "vp" = some (2, .local) := by decide +kernel
theorem nM2_yp : nmAt (scopeOf (mth 2)) "yp" = some (3, .local) := by decide +kernel
theorem nM2_min : nmAt (scopeOf (mth 2)) "min" = some (4, .globalImplicit) := by decide +kernel
theorem ndM2 : ((scopeOf (mth 2)).names.map (·.1)).Nodup := by decide +kernel
theorem fnM2 : (scopeOf (mth 2)).kind = .function ∧ (scopeOf (mth 2)).isCoroutine = false ∧ (scopeOf (mth 2)).isGenerator = false := by decide +kernel
theorem nM3_self : nmAt (scopeOf (mth 3)) "self" = some (0, .local) := by decide +kernel
theorem nM3_word : nmAt (scopeOf (mth 3)) "word" = some (1, .local) := by decide +kernel
theorem nM3_prefix : nmAt (scopeOf (mth 3)) "prefix" = some (2, .local) := by decide +kernel
theorem nM3_len : nmAt (scopeOf (mth 3)) "len" = some (3, .globalImplicit) := by decide +kernel
theorem ndM3 : ((scopeOf (mth 3)).names.map (·.1)).Nodup := by decide +kernel
theorem fnM3 : (scopeOf (mth 3)).kind = .function ∧ (scopeOf (mth 3)).isCoroutine = false ∧ (scopeOf (mth 3)).isGenerator = false := by decide +kernel
theorem nM4_self : nmAt (scopeOf (mth 4)) "self" = some (0, .local) := by decide +kernel
theorem nM4_word : nmAt (scopeOf (mth 4)) "word" = some (1, .local) := by decide +kernel
theorem nM4_rules : nmAt (scopeOf (mth 4)) "rules" = some (2, .local) := by decide +kernel
theorem nM4_k : nmAt (scopeOf (mth 4)) "k" = some (3, .local) := by decide +kernel
theorem nM4_stem : nmAt (scopeOf (mth 4)) "stem" = some (4, .local) := by decide +kernel
theorem nM4_is_intact : nmAt (scopeOf (mth 4)) "is_intact" = some (5, .local) := by decide +kernel
theorem nM4_continuing : nmAt (scopeOf (mth 4)) "continuing" = some (6, .local) := by decide +kernel
theorem nM4_pfv : nmAt (scopeOf (mth 4)) "pfv" = some (7, .local) := by decide +kernel
theorem nM4_rulelist : nmAt (scopeOf (mth 4)) "rulelist" = some (8, .local) := by decide +kernel
theorem nM4_ending : nmAt (scopeOf (mth 4)) "ending" = some (9, .local) := by decide +kernel
theorem nM4_intact : nmAt (scopeOf (mth 4)) "intact" = some (10, .local) := by decide +kernel
theorem nM4_num : nmAt (scopeOf (mth 4)) "num" = some (11, .local) := by decide +kernel
theorem nM4_append : nmAt (scopeOf (mth 4)) "append" = some (12, .local) := by decide +kernel
theorem nM4_cont : nmAt (scopeOf (mth 4)) "cont" = some (13, .local) := by decide +kernel
theorem nM4_newlen : nmAt (scopeOf (mth 4)) "newlen" = some (14, .local) := by decide +kernel
theorem nM4__word_run : nmAt (scopeOf (mth 4)) "_word_run" = some (15, .globalImplicit) := by decide +kernel
theorem nM4_len : nmAt (scopeOf (mth 4)) "len" = some (16, .globalImplicit) := by decide +kernel
theorem ndM4 : ((scopeOf (mth 4)).names.map (·.1)).Nodup := by decide +kernel
theorem fnM4 : (scopeOf (mth 4)).kind = .function ∧ (scopeOf (mth 4)).isCoroutine = false ∧ (scopeOf (mth 4)).isGenerator = false := by decide +kernel
end Mine

end

section
open PySem PySem.W PyProof.Rows PySem.Calls
set_option Elab.async false
set_option linter.unusedVariables false
namespace Mine

/-- where the text's things lie -/
structure Cfg where
  mg : Str → Option Value
  ad : Nat → Addr
  K : Frag
  C : Addr
/-- the names of the text's first part, and its class -/
structure GN (cf : Cfg) : Prop where
  wr : cf.mg "_word_run" = some (.ref (cf.ad 1))
  isf : cf.mg "_is_figure" = some (.ref (cf.ad 2))
  rr : cf.mg "_read_rule" = some (.ref (cf.ad 3))
  ph : cf.mg "PaiceHuskStemmer" = some (.ref cf.C)
  len : cf.mg "len" = none
  int : cf.mg "int" = none
  min : cf.mg "min" = none
  exc : cf.mg "Exception" = none
  hga : findIn cf.K (.ref cf.C) "__getattribute__" = some (some (.builtin "object.__getattribute__"))
  hgm : findIn cf.K (.ref cf.C) "__getattr__" = some none
  hsa : findIn cf.K (.ref cf.C) "__setattr__" = some (some (.builtin "object.__setattr__"))
  k0 : findIn cf.K (.ref cf.C) "__init__" = some (some (.ref (cf.ad 100)))
  k1 : findIn cf.K (.ref cf.C) "read_rules" = some (some (.ref (cf.ad 101)))
  k2 : findIn cf.K (.ref cf.C) "first_vowel" = some (some (.ref (cf.ad 102)))
  k3 : findIn cf.K (.ref cf.C) "strip_prefix" = some (some (.ref (cf.ad 103)))
  k4 : findIn cf.K (.ref cf.C) "stem" = some (some (.ref (cf.ad 104)))
  kr : findIn cf.K (.ref cf.C) "rules" = some none
  t0 : typeIn cf.K (.ref (cf.ad 100)) = some (.type "function")
  t1 : typeIn cf.K (.ref (cf.ad 101)) = some (.type "function")
  t2 : typeIn cf.K (.ref (cf.ad 102)) = some (.type "function")
  t3 : typeIn cf.K (.ref (cf.ad 103)) = some (.type "function")
  t4 : typeIn cf.K (.ref (cf.ad 104)) = some (.type "function")
  makes : makesIn cf.K cf.C = true
  plain : plainOver cf.K cf.C = true
  dict : hasDictIn cf.K cf.C = true
structure TopA (cf : Cfg) (g : Heap) : Prop where
  gd : Gd cf.mg g
  kin : cf.K.In g
  f1 : FnAt g (cf.ad 1) (stt 1) "_word_run"
  f2 : FnAt g (cf.ad 2) (stt 2) "_is_figure"
  f3 : FnAt g (cf.ad 3) (stt 3) "_read_rule"
  m0 : FnAt g (cf.ad 100) (mth 0) "PaiceHuskStemmer.__init__"
  m1 : FnAt g (cf.ad 101) (mth 1) "PaiceHuskStemmer.read_rules"
  m2 : FnAt g (cf.ad 102) (mth 2) "PaiceHuskStemmer.first_vowel"
  m3 : FnAt g (cf.ad 103) (mth 3) "PaiceHuskStemmer.strip_prefix"
  m4 : FnAt g (cf.ad 104) (mth 4) "PaiceHuskStemmer.stem"
theorem TopA.up {cf} {g g' : Heap} (t : TopA cf g) (u : Up g g') : TopA cf g' := ⟨t.gd.up u, t.kin.keeps u, t.f1.up u, t.f2.up u, t.f3.up u, t.m0.up u, t.m1.up u, t.m2.up u, t.m3.up u, t.m4.up u⟩

/-! ## the word's run -/
def isW (c : Nat) : Bool := (decide (97 ≤ c) && decide (c ≤ 122)) || ((decide (65 ≤ c) && decide (c ≤ 90)) || ((decide (48 ≤ c) && decide (c ≤ 57)) || [c] == [95]))
def runLen : List Nat → Nat
  | [] => 0
  | c :: r => if isW c then runLen r + 1 else 0
def wordRun (l : List Nat) (k : Nat) : Nat := k + runLen (l.drop k)
theorem wordRun_step {l : List Nat} {k : Nat} (h : k < l.length) : wordRun l k = if isW (l.getD k 0) then wordRun l (k + 1) else k := by
  unfold wordRun
  rw [List.drop_eq_getElem_cons h]
  have : l.getD k 0 = l[k] := by simp [h]
  rw [this]
  show k + (if isW l[k] then _ else _) = _
  split <;> omega
theorem wordRun_end {l : List Nat} {k : Nat} (h : l.length ≤ k) : wordRun l k = k := by
  unfold wordRun
  rw [List.drop_of_length_le h]; rfl

section
variable {w : World} {cf : Cfg}

theorem c_word_run (N : GN cf) (l : List Nat) (t : Tok) (k : Nat) (u : Tok) (hl : l.length ≤ sizeLine) : Gives w 1 (.ref (cf.ad 1)) [.str (T l) t, .int k u] (TopA cf) (VN (wordRun l k)) := by
  refine gives_of ["text", "place"] (vals := [some (.str (T l) t), some (.int k u), none]) (fun g p => ⟨p.f1, p.gd.nolimit⟩) ?_ (by decide +kernel) ndS1 fnS1 1 (by kernel_rfl!) ?_
  · intro fd h1 h2
    obtain ⟨⟩ := fd
    dsimp only at h1 h2
    subst h1 h2
    rfl
  intro A e B g R E p
  have G := p.gd
  conv in bodyOf _ => whnf
  refine BlF.while (fun n g' v => ∃ (i : Nat) (t' : Tok) (o : Option Value), v = [some (.str (T l) t), some (.int i t'), o] ∧ wordRun l i = wordRun l k ∧ n = l.length - i)
    (fun g' v => ∃ (t' : Tok) (o : Option Value), v = [some (.str (T l) t), some (.int (wordRun l k) t'), o]) ?_ (l.length - k) (fun g' _ => ⟨k, u, none, rfl, rfl, rfl⟩) ?_
  · rintro n g₁ v u₁ ⟨i, t', o, rfl, hi, rfl⟩
    refine ⟨_, TsF.ltI (EvF.localN nS1_place rfl) (EvF.lenT (EvF.bltin (G.up u₁) nS1_len N.len rfl) (EvF.localT nS1_text rfl) hl), ?_, ?_⟩
    · intro hb
      have hb : i < l.length := by simpa using hb
      refine BlF.assign (EvF.itemT (EvF.localT nS1_text rfl) (EvF.localN nS1_place rfl) hb hl) nS1_sign ?_
      rintro g₂ y u₂ ⟨t₂, rfl⟩
      refine BlF.ite1 (TsF.not (TsF.or (TsF.and (TsF.leT1 (EvF.sg 97) (EvF.localT nS1_sign rfl)) fun _ => TsF.and1 (TsF.leT1 (EvF.localT nS1_sign rfl) (EvF.sg 122))) fun _ =>
        TsF.or (TsF.and (TsF.leT1 (EvF.sg 65) (EvF.localT nS1_sign rfl)) fun _ => TsF.and1 (TsF.leT1 (EvF.localT nS1_sign rfl) (EvF.sg 90))) fun _ =>
        TsF.or (TsF.and (TsF.leT1 (EvF.sg 48) (EvF.localT nS1_sign rfl)) fun _ => TsF.and1 (TsF.leT1 (EvF.localT nS1_sign rfl) (EvF.sg 57))) fun _ =>
        TsF.or1 (TsF.eqT (EvF.localT nS1_sign rfl) (EvF.sg 95)))) ?_ ?_
      · intro hb2
        have hb2 : (!isW (l.getD i 0)) = true := hb2
        have h3 := wordRun_step hb
        rw [Bool.not_eq_true'] at hb2
        rw [hb2, if_neg Bool.false_ne_true, hi] at h3
        refine BlF.brk fun g₃ u₃ => ?_
        rw [h3]
        exact ⟨t', _, rfl⟩
      · intro hb2
        have hb2 : (!isW (l.getD i 0)) = false := hb2
        have h3 := wordRun_step hb
        rw [Bool.not_eq_false'] at hb2
        rw [hb2, if_pos rfl, hi] at h3
        exact BlF.incI nS1_place rfl EvF.int fun g₃ t₃ u₃ => BlF.nil fun g₄ u₄ => ⟨l.length - (i + 1), by omega, i + 1, t₃, _, rfl, h3.symm, rfl⟩
    · intro hb g₂ u₂
      have hb : ¬ i < l.length := by simpa using hb
      exact ⟨t', o, by rw [← hi, wordRun_end (by omega)]⟩
  · rintro g₁ v u₁ ⟨t', o, rfl⟩
    exact BlF.ret (EvF.localN nS1_place rfl) fun g₂ y u₂ hy => hy
end
end Mine

end

section
open PySem PySem.W PyProof.Rows PySem.Calls
set_option Elab.async false
set_option linter.unusedVariables false
set_option maxRecDepth 100000
namespace Mine

/-- an object whose only attribute is `rules` -/
def InsOf (g : Heap) (C x : Addr) (d : Value) : Prop := ∃ dx es n, g.get? x = some (instObj C dx) ∧ g.get? dx = some (dictOf es n) ∧ getL "rules" es = some (some d) ∧ getL "read_rules" es = some none ∧ getL "strip_prefix" es = some none ∧ getL "first_vowel" es = some none ∧ getL "stem" es = some none
theorem InsOf.up {g g' : Heap} {C x : Addr} {d : Value} (h : InsOf g C x d) (u : Up g g') : InsOf g' C x d := let ⟨dx, es, n, a, b, r⟩ := h; ⟨dx, es, n, u _ _ a, u _ _ b, r⟩

section
variable {w : World} {A : Around} {E : Value → Shared → Prop} {s : Shared} {e : Env} {sc : Scope} {B : Base} {g g₀ : Heap} {vals : List (Option Value)} {pos : Pos} {rest : List Stmt} {P : PostT} {cf : Cfg}

/-- a method of an object is called -/
theorem EvF.callM {o : Expr} {name : Str} {p : Pos} {ts : List Expr} {x f : Addr} {st : Stmt} {qual : Str} {n : Nat} {V : Heap → List Value → Prop} {W : Heap → Value → Prop} {pl : Sem Bool} (N : GN cf) (kin : cf.K.In g₀) (ho : EvF w A e sc B vals g₀ o (fun _ v => v = .ref x))
    (hf : findIn cf.K (.ref cf.C) name = some (some (.ref f))) (ht : typeIn cf.K (.ref f) = some (.type "function")) (hfn : FnAt g₀ f st qual)
    (hi : ∃ dx es n, g₀.get? x = some (instObj cf.C dx) ∧ g₀.get? dx = some (dictOf es n) ∧ getL name es = some Option.none)
    (ha : EvL w A e sc B vals g₀ pos ts V) (R : Room A n) (hc : ∀ g vs, Up g₀ g → V g vs → ∃ P, P g ∧ Gives w n (.ref f) (.ref x :: vs) P W)
    (hp : (backTo pos (starEach ts e)).any (·.1) = false := by rfl)
    (he : eval (.Call (.Attribute o name p) ts [] pos) e = (do
      let ov ← eval o e
      standAt p.atName
      let (f, first) ← holding [ov] (getMethod ov name pl)
      callWith pos f first (backTo pos (starEach ts e)) []) := by rfl) :
    EvF w A e sc B vals g₀ (.Call (.Attribute o name p) ts [] pos) W := .mk fun s g Q E u F h => by
  refine MethodCall_ (ho.run s g _ E u F fun v g₁ h₁ tk₁ u₁ ug₁ F₁ hv => ?_) he
  subst hv
  obtain ⟨dx, es, nn, hx, hdx, hl⟩ := hi
  have up : Up g₀ h₁ := (u.tr ug₁).tr F₁.vis
  have I : InstAt h₁ x (instObj cf.C dx) cf.C (some (dictOf es nn)) := ⟨up _ _ hx, rfl, rfl, up _ _ hdx⟩
  refine method_fn (s := { s with heap := h₁, toks := tk₁ }) (K := cf.K) (kin.keeps up) I N.hga N.hgm hf ht (by
    show (lookIn name (dictOf es nn)).map (·.isSome) = some false
    rw [show lookIn name (dictOf es nn) = some Option.none from hl]; rfl) ?_
  obtain ⟨ob, fd, h1, h2, _⟩ := hfn.at_
  refine callWith_function (o := ob) (fd := fd) (evalArgs_any hp (ha.run { s with heap := h₁, toks := tk₁ } g₁ _ E (u.tr ug₁) F₁ fun vs g₂ h₂ tk₂ u₂ ug₂ F₂ hvs => ⟨⟨F₂.vis _ _ (ug₂ _ _ (ug₁ _ _ (u _ _ h1))), h2⟩, ?_⟩))
  obtain ⟨P, hP, C⟩ := hc g₂ vs ((u.tr ug₁).tr ug₂) hvs
  exact Gives.use (s := { s with heap := h₂, toks := tk₂ }) C R F₂ hP fun v g₃ h₃ tk₃ u₃ ug₃ F₃ hv => h v g₃ h₃ tk₃ ((u₁.tr u₂).tr u₃) ((ug₁.tr ug₂).tr ug₃) F₃ hv

/-- an object's own attribute -/
theorem EvF.attrI {y name : Str} {yp p : Pos} {x : Addr} {v : Value} (N : GN cf) (kin : cf.K.In g₀) (ho : EvF w A e sc B vals g₀ (.Name y yp) (fun _ v => v = .ref x)) (hf : findIn cf.K (.ref cf.C) name = some Option.none)
    (hi : ∃ dx es n, g₀.get? x = some (instObj cf.C dx) ∧ g₀.get? dx = some (dictOf es n) ∧ getL name es = some (some v)) (hv : handedIn v = true) : EvF w A e sc B vals g₀ (.Attribute (.Name y yp) name p) (fun _ u => u = v) := .mk fun s g Q E u F h => by
  refine Attribute_Name_ (ho.run s g _ E u F fun o g₁ h₁ tk₁ u₁ ug₁ F₁ e1 => ?_)
  subst e1
  obtain ⟨dx, es, nn, hx, hdx, hl⟩ := hi
  have up : Up g₀ h₁ := (u.tr ug₁).tr F₁.vis
  have I : InstAt h₁ x (instObj cf.C dx) cf.C (some (dictOf es nn)) := ⟨up _ _ hx, rfl, rfl, up _ _ hdx⟩
  exact get_value (s := { s with heap := h₁, toks := tk₁ }) (kin.keeps up) I N.hga (findObj_own N.dict hf rfl hl) hv (h v g₁ h₁ _ u₁ ug₁ F₁ rfl)

theorem MapOf.up {f : Str → Option Value} {g g' : Heap} {d : Addr} (h : g.MapOf (PySem.strKind pw w) d f) (u : Up g g') : g'.MapOf (PySem.strKind pw w) d f := let ⟨o, es, ep, a, r⟩ := h; ⟨o, es, ep, u _ _ a, r⟩

/-- a dict is asked for a text -/
theorem EvF.dictGet {o t : Expr} {p : Pos} {d : Addr} {f : Str → Option Value} {k : Str} {pl : Sem Bool} (ho : EvF w A e sc B vals g₀ o (fun _ v => v = .ref d)) (hd : (d == sysModules) = false) (hm : g₀.MapOf (PySem.strKind pw w) d f) (ht : EvF w A e sc B vals g₀ t (VS k))
    (hs : backTo pos (starEach [t] e) = [(false, eval t e)] := by rfl)
    (he : eval (.Call (.Attribute o "get" p) [t] [] pos) e = (do
      let ov ← eval o e
      standAt p.atName
      let (f, first) ← holding [ov] (getMethod ov "get" pl)
      callWith pos f first (backTo pos (starEach [t] e)) []) := by rfl) :
    EvF w A e sc B vals g₀ (.Call (.Attribute o "get" p) [t] [] pos) (fun _ v => v = (f k).getD .none) := .mk fun s g Q E u F h => by
  refine MethodCall_ (ho.run s g _ E u F fun v g₁ h₁ tk₁ u₁ ug₁ F₁ hv => ?_) he
  subst hv
  have up : Up g₀ h₁ := (u.tr ug₁).tr F₁.vis
  have hm₁ := MapOf.up hm up
  refine getMethod_builtin (s := { s with heap := h₁, toks := tk₁ }) hm₁.typeIs PySem.F.plainAttrs_dict PySem.F.slot_dict_get PySem.F.type_dict_get hm₁.noDict ?_
  rw [hs]
  refine wpAny_dict_get1 (knd := PySem.strKind pw w) hd (ht.run { s with heap := h₁, toks := tk₁ } g₁ _ E (u.tr ug₁) F₁ fun y g₂ h₂ tk₂ u₂ ug₂ F₂ ⟨t', e1⟩ => ?_)
  subst e1
  exact ⟨k, f, by show Value.isStrOf k (.str k t') = true; simp [Value.isStrOf], MapOf.up hm₁ u₂, h _ g₂ h₂ _ (u₁.tr u₂) (ug₁.tr ug₂) F₂ rfl⟩
end
end Mine

end

section
open PySem PySem.W PyProof.Rows PySem.Calls
set_option Elab.async false
set_option linter.unusedVariables false
set_option maxRecDepth 100000
namespace Mine

section
variable {w : World} {A : Around} {E : Value → Shared → Prop} {s : Shared} {e : Env} {sc : Scope} {B : Base} {g g₀ : Heap} {vals : List (Option Value)} {pos : Pos} {rest : List Stmt} {P : PostT} {cf : Cfg}

/-- a value's truth -/
def Tru (w : World) (g : Heap) (v : Value) (b : Bool) : Prop := ∀ (A : Around) (s : Shared) (Q : Bool → Shared → Prop) (E : Value → Shared → Prop), Up g s.heap → (∀ tk, Q b { s with toks := tk }) → wpAny (model pw w) A (truthy v) Q E s
theorem TsF.tru {t : Expr} {V : Heap → Value → Prop} {b : Bool} (h : EvF w A e sc B vals g₀ t V) (hb : ∀ g v, Up g₀ g → V g v → Tru w g v b) (he : isTrue t e (eval t e) = (do let v ← eval t e; standAt t.pos; holding [v] (truthy v)) := by rfl) : TsF w A e sc B vals g₀ t b := .mk
  fun s g Q E u F k => isTrue_plain (h.run s g _ E u F fun v g' h' tk u' ug' F' hv => hb g' v (u.tr ug') hv A _ Q E F'.vis fun tk' => k g' h' tk' u' ug' F') he
theorem Tru.none {g : Heap} : Tru w g .none false := fun _ s _ _ _ h => truthy_none (h s.toks)
theorem Tru.bool {g : Heap} {b : Bool} : Tru w g (.bool b) b := fun _ s _ _ _ h => wpAny_truthy_bool (h s.toks)
theorem Tru.int {g : Heap} {n : Int} {t : Tok} : Tru w g (.int n t) (n != 0) := fun _ s _ _ _ h => P.truthy_int (h s.toks)
theorem Tru.text {g : Heap} {l : List Nat} {t : Tok} (hl : l.length ≤ sizeLine) : Tru w g (.str (T l) t) (!l.isEmpty) := fun _ s _ _ _ h => by
  refine P.truthy_str (by rw [T_len]; rw [sizeLine_eq] at hl; omega) ?_
  rw [T_len]
  have e : ((l.length : Int) != 0) = !l.isEmpty := by cases l <;> simp <;> omega
  rw [e]; exact h _
theorem Tru.list {g : Heap} {v : Value} {vs : List Value} (hv : IsLst g v vs) (hl : vs.length ≤ sizeLine) : Tru w g v (!vs.isEmpty) := fun _ s _ _ u h => by
  obtain ⟨a, rfl, o, ho, r⟩ := hv
  refine wpAny_truthy_list ⟨o, u _ _ ho, r⟩ (by rw [List.size_toArray]; rw [sizeLine_eq] at hl; omega) ?_
  rw [List.isEmpty_toArray]; exact h _
theorem Tru.tuple {g : Heap} {v : Value} {vs : List Value} (hv : Mine.IsTup g v vs) (hl : vs.length ≤ sizeLine) : Tru w g v (!vs.isEmpty) := fun _ s _ _ u h => by
  obtain ⟨a, rfl, o, ho, r⟩ := hv
  refine truthy_tuple (items := vs.toArray) ⟨o, u _ _ ho, r⟩ (by rw [List.size_toArray]; rw [sizeLine_eq] at hl; omega) ?_
  rw [List.isEmpty_toArray]; exact h _
theorem TsF.localB {x : Str} {i : Nat} {b : Bool} {p : Pos} (hn : nmAt sc x = some (i, .local)) (hv : at' vals i = some (.bool b)) (hd : (x == ("__debug__" : Str)) = false := by decide +kernel) : TsF w A e sc B vals g₀ (.Name x p) b :=
  TsF.val (EvF.local hn hv hd)
theorem EvF.localB {x : Str} {i : Nat} {b : Bool} {p : Pos} (hn : nmAt sc x = some (i, .local)) (hv : at' vals i = some (.bool b)) (hd : (x == ("__debug__" : Str)) = false := by decide +kernel) : EvF w A e sc B vals g₀ (.Name x p) (VB b) :=
  EvF.local hn hv hd

theorem setAt_len (i : Nat) (v : Option Value) : ∀ l : List (Option Value), (setAt i v l).length = l.length := fun l => by
  induction l generalizing i with
  | nil => cases i <;> rfl
  | cons a r ih => cases i with
    | zero => rfl
    | succ i => show (setAt i v r).length + 1 = r.length + 1; rw [ih]

/-- five names are set from a tuple of five -/
theorem AsF.tuple5 {y1 y2 y3 y4 y5 : Str} {i1 i2 i3 i4 i5 : Nat} {p1 p2 p3 p4 p5 p : Pos} {j : Nat} {x v1 v2 v3 v4 v5 : Value} (hA : A.handled = none) (hx : Mine.IsTup g₀ x [v1, v2, v3, v4, v5])
    (h1 : nmAt sc y1 = some (i1, .local)) (h2 : nmAt sc y2 = some (i2, .local)) (h3 : nmAt sc y3 = some (i3, .local)) (h4 : nmAt sc y4 = some (i4, .local)) (h5 : nmAt sc y5 = some (i5, .local))
    (l1 : i1 < vals.length) (l2 : i2 < vals.length) (l3 : i3 < vals.length) (l4 : i4 < vals.length) (l5 : i5 < vals.length) :
    AsF w A e sc vals g₀ (.Tuple [.Name y1 p1, .Name y2 p2, .Name y3 p3, .Name y4 p4, .Name y5 p5] j p) x (setAt i5 (some v5) (setAt i4 (some v4) (setAt i3 (some v3) (setAt i2 (some v2) (setAt i1 (some v1) vals))))) := .mk fun B s g Q E u F k => by
  obtain ⟨a, rfl, ht⟩ := hx
  have ht' : s.heap.IsTuple a [v1, v2, v3, v4, v5].toArray := let ⟨o, ho, r⟩ := ht; ⟨o, F.vis _ _ (u _ _ ho), r⟩
  refine wpAny_assign_Tuple hA ht' rfl rfl fun h₁ hs => ?_
  have F₁ : Fz e sc B g h₁ vals := F.up fun b o z => hs b o (Nat.ne_of_lt (Heap.lt_size z)) z
  show wpAny _ _ (do holding _ (assign (.Name y1 p1) e v1); (do holding _ (assign (.Name y2 p2) e v2); (do holding _ (assign (.Name y3 p3) e v3); (do holding _ (assign (.Name y4 p4) e v4); (do holding _ (assign (.Name y5 p5) e v5); pure ()))))) _ _ _
  refine wpAny_bind (wpAny_holding (wpAny_assign_Name (stL (s := { s with heap := h₁ }) F₁ h1 l1 fun h₂ tk₂ F₂ _ _ => ?_)))
  refine wpAny_bind (wpAny_holding (wpAny_assign_Name (stL (s := { s with heap := h₂, toks := tk₂ }) F₂ h2 (by rw [setAt_len]; exact l2) fun h₃ tk₃ F₃ _ _ => ?_)))
  refine wpAny_bind (wpAny_holding (wpAny_assign_Name (stL (s := { s with heap := h₃, toks := tk₃ }) F₃ h3 (by rw [setAt_len, setAt_len]; exact l3) fun h₄ tk₄ F₄ _ _ => ?_)))
  refine wpAny_bind (wpAny_holding (wpAny_assign_Name (stL (s := { s with heap := h₄, toks := tk₄ }) F₄ h4 (by rw [setAt_len, setAt_len, setAt_len]; exact l4) fun h₅ tk₅ F₅ _ _ => ?_)))
  exact wpAny_bind (wpAny_holding (wpAny_assign_Name (stL (s := { s with heap := h₅, toks := tk₅ }) F₅ h5 (by rw [setAt_len, setAt_len, setAt_len, setAt_len]; exact l5) fun h₆ tk₆ F₆ _ _ => wpAny_pure (k h₆ tk₆ F₆))))
end
end Mine

end

section
open PySem PySem.W PyProof.Rows PySem.Calls
set_option Elab.async false
set_option linter.unusedVariables false
set_option maxRecDepth 100000
namespace Mine

def stripT (l : List Nat) : List Nat := (Txt.strip (T l)).cps.toList
def splitT (l : List Nat) (c : Nat) : List (List Nat) := (Txt.split (T l) (T [c])).map (·.cps.toList)

theorem strs_of_pairs : ∀ (l : List (Str × Tok)), StrsOf (l.map (·.1.cps.toList)) (strValues l)
  | [] => .nil
  | (x, t) :: r => .cons ⟨t, by show Value.str x t = .str (T x.cps.toList) t; rw [← T_of]⟩ (strs_of_pairs r)

section
variable {w : World} {A : Around} {E : Value → Shared → Prop} {s : Shared} {e : Env} {sc : Scope} {B : Base} {g g₀ h : Heap} {vals : List (Option Value)} {pos : Pos} {rest : List Stmt} {P : PostT} {cf : Cfg}

theorem EvF.strip0 {o : Expr} {p : Pos} {l : List Nat} {pl : Sem Bool} (ho : EvF w A e sc B vals g₀ o (VT l)) (hl : l.length ≤ sizeLine)
    (hp : (backTo pos (starEach [] e)).any (·.1) = false := by rfl)
    (he : eval (.Call (.Attribute o "strip" p) [] [] pos) e = (do
      let ov ← eval o e
      standAt p.atName
      let (f, first) ← holding [ov] (getMethod ov "strip" pl)
      callWith pos f first (backTo pos (starEach [] e)) []) := by rfl) : EvF w A e sc B vals g₀ (.Call (.Attribute o "strip" p) [] [] pos) (VT (stripT l)) :=
  EvF.strM ho (fun _ _ _ _ _ k => GM.strip k) EvL.nil (fun g t vs _ e1 s Q E F k => by
    subst e1
    refine SC.strip (fun t' c => ?_) (by rw [T_len]; exact hl)
    exact k _ g s.heap _ Up.rfl' Up.rfl' F ⟨t', by unfold stripT; rw [← T_of]⟩) hp he

theorem split_new {x y : Str} {t u : Tok} {Q : Value → Shared → Prop} (hy : (y.length == 0) = false) (hx : x.length ≤ sizeLine) (hz : (Builtin.Str.partsBetween x (Builtin.Str.occurrences x y 0 x.length (x.length + 1)) y.length).length ≤ sizeLine)
    (hq : ∀ l k, l.map (·.1) = Txt.split x y → Q (.ref s.heap.objs.size) { s with toks := k, heap := s.heap.push { cls := .type "list", data := .seq (strValues l).toArray } }) :
    wpAny (model pw w) A (call (.builtin "str.split") [.str x t, .str y u]) Q E s := by
  have made : ∀ (l : List (Str × Tok)) k, l.map (·.1) = Txt.split x y → wants Q E (.ok (.ret (.ref s.heap.objs.size))) { s with toks := k, heap := s.heap.push { cls := .type "list", data := .seq (strValues l).toArray } } := fun l k h => hq l k h
  cases h1 : (decide (x.length < y.length) || decide (PySem.Builtin.Str.strKind x < PySem.Builtin.Str.strKind y))
  · cases hf : (Builtin.Str.occurrences x y 0 x.length (x.length + 1)).isEmpty
    · refine call_meets PySem.F.slot_str_split (typeIs_str _ _ _) PySem.F.entry_str_split (PySem.F.args_str_split_2 _ _) (meets_str_split_sep x y t u h1 hy hf hx hz) ?_
      show wants Q E _ { s with toks := _, heap := s.heap.push { cls := .type "list", data := .seq (strsFrom s.toks (Builtin.Str.partsBetween x (Builtin.Str.occurrences x y 0 x.length (x.length + 1)) y.length)).toArray } }
      rw [strsFrom_eq]
      exact hq _ _ ((numbered_texts _ _).trans ((if_neg (ne_true_of_eq_false h1)).trans (if_neg (ne_true_of_eq_false hf))).symm)
    · exact call_meets PySem.F.slot_str_split (typeIs_str _ _ _) PySem.F.entry_str_split (PySem.F.args_str_split_2 _ _) (meets_str_split_not_found x y t u h1 hy hf) (made [(x, t)] s.toks ((if_neg (ne_true_of_eq_false h1)).trans (if_pos hf)).symm)
  · exact call_meets PySem.F.slot_str_split (typeIs_str _ _ _) PySem.F.entry_str_split (PySem.F.args_str_split_2 _ _) (meets_str_split_cannot_occur x y t u h1) (made [(x, t)] s.toks (if_pos h1).symm)

theorem EvF.split1 {o y : Expr} {p : Pos} {l : List Nat} {c : Nat} {pl : Sem Bool} (ho : EvF w A e sc B vals g₀ o (VT l)) (hy : EvF w A e sc B vals g₀ y (VT [c])) (hl : l.length + 2 ≤ sizeLine)
    (h1 : starEach [y] e = (false, eval y e) :: starEach [] e := by rfl) (hp : (backTo pos (starEach [y] e)).any (·.1) = false := by rfl)
    (he : eval (.Call (.Attribute o "split" p) [y] [] pos) e = (do
      let ov ← eval o e
      standAt p.atName
      let (f, first) ← holding [ov] (getMethod ov "split" pl)
      callWith pos f first (backTo pos (starEach [y] e)) []) := by rfl) : EvF w A e sc B vals g₀ (.Call (.Attribute o "split" p) [y] [] pos) (fun g v => ∃ vs, IsLst g v vs ∧ StrsOf (splitT l c) vs) :=
  EvF.strM ho (fun _ _ _ _ _ k => GM.split k) (EvL.one hy Mono.vs h1) (fun g t vs _ ⟨v, e1, t', e2⟩ s Q E FF k => by
    subst e1 e2
    refine split_new rfl (by rw [T_len]; omega) ?_ fun ls tk hm => ?_
    · rw [len_partsBetween]
      have := StrLaws.occ_length_le (T l) (T [c]) 0 (T l).length ((T l).length + 1)
      rw [T_len] at this ⊢
      omega
    · obtain ⟨g₂, ug₂, F₂, hg⟩ := FF.new { cls := .type "list", data := .seq (strValues ls).toArray } rfl
      refine k _ g₂ _ tk (Up.push _) ug₂ F₂ ⟨strValues ls, ⟨_, rfl, _, hg, rfl, _, rfl⟩, ?_⟩
      have := strs_of_pairs ls
      unfold splitT
      rw [← hm, List.map_map]
      exact this) hp he
end
end Mine

end

section
open PySem PySem.W PyProof.Rows PySem.Calls
set_option Elab.async false
set_option linter.unusedVariables false
namespace Mine

def isF (c : Nat) : Bool := decide (48 ≤ c) && decide (c ≤ 57)
def figLen : List Nat → Nat
  | [] => 0
  | c :: r => if isF c then figLen r + 1 else 0
def figRun (l : List Nat) (k : Nat) : Nat := k + figLen (l.drop k)
theorem figRun_step {l : List Nat} {k : Nat} (h : k < l.length) : figRun l k = if isF (l.getD k 0) then figRun l (k + 1) else k := by
  unfold figRun
  rw [List.drop_eq_getElem_cons h]
  have : l.getD k 0 = l[k] := by simp [h]
  rw [this]
  show k + (if isF l[k] then _ else _) = _
  split <;> omega
theorem figRun_end {l : List Nat} {k : Nat} (h : l.length ≤ k) : figRun l k = k := by
  unfold figRun
  rw [List.drop_of_length_le h]; rfl
theorem runLen_le : ∀ l, runLen l ≤ l.length
  | [] => Nat.le_refl _
  | c :: r => by
    unfold runLen
    have := runLen_le r
    split <;> simp <;> omega
theorem figLen_le : ∀ l, figLen l ≤ l.length
  | [] => Nat.le_refl _
  | c :: r => by
    unfold figLen
    have := figLen_le r
    split <;> simp <;> omega
theorem figLen_all : ∀ l : List Nat, NumText.AllDigits (l.take (figLen l))
  | [] => fun c h => by simp at h
  | c :: r => by
    unfold figLen
    split
    · rename_i h
      intro d hd
      rw [List.take_succ_cons, List.mem_cons] at hd
      rcases hd with rfl | hd
      · simpa [isF] using h
      · exact figLen_all r d hd
    · intro d hd; simp at hd
theorem wordRun_le {l : List Nat} {k : Nat} (h : k ≤ l.length) : wordRun l k ≤ l.length := by
  have := runLen_le (l.drop k)
  rw [List.length_drop] at this
  unfold wordRun; omega
theorem wordRun_ge {l : List Nat} {k : Nat} : k ≤ wordRun l k := Nat.le_add_right _ _
theorem figRun_le {l : List Nat} {k : Nat} (h : k ≤ l.length) : figRun l k ≤ l.length := by
  have := figLen_le (l.drop k)
  rw [List.length_drop] at this
  unfold figRun; omega
theorem figRun_ge {l : List Nat} {k : Nat} : k ≤ figRun l k := Nat.le_add_right _ _
def back (l : List Nat) : Nat → Nat
  | 0 => 0
  | p + 1 => if isF (l.getD (p + 1) 0) then p + 1 else back l p
theorem back_le (l : List Nat) : ∀ p, back l p ≤ p
  | 0 => Nat.le_refl _
  | p + 1 => by
    unfold back
    have := back_le l p
    split <;> omega
theorem back_fig (l : List Nat) : ∀ p, 0 < back l p → isF (l.getD (back l p) 0) = true
  | 0, h => by simp [back] at h
  | p + 1, h => by
    unfold back at h ⊢
    split
    · assumption
    · rename_i c
      rw [if_neg c] at h
      exact back_fig l p h

structure Rule where
  en : List Nat
  al : Bool
  n : Nat
  mo : List Nat
  on : Bool
/-- a row's end: '.' or '>' -/
def isE (c : Nat) : Bool := [c] == [46] || [c] == [62]
def readRule (l : List Nat) : Option Rule :=
  let k := wordRun l 0
  if (decide (0 < k) && (decide (k < l.length) && ([l.getD k 0] == [42]))) = true then
    let p := k + 1
    let q := figRun l p
    let r := wordRun l q
    if (decide (p < q) && (decide (r < l.length) && isE (l.getD r 0))) = true then
      some ⟨l.take k, true, NumText.digitsVal ((l.drop p).take (q - p)), (l.drop q).take (r - q), [l.getD r 0] == [62]⟩
    else none
  else
    let p := back l (k - 1)
    if (decide (0 < p) && (decide (k < l.length) && isE (l.getD k 0))) = true then
      some ⟨l.take p, false, NumText.digitsVal [l.getD p 0], (l.drop (p + 1)).take (k - (p + 1)), [l.getD k 0] == [62]⟩
    else none

def IsRule (g : Heap) (v : Value) (r : Rule) : Prop := ∃ t1 t2 t3, IsTup g v [.str (T r.en) t1, .bool r.al, .int (r.n : Int) t2, .str (T r.mo) t3, .bool r.on]
theorem IsRule.up {g g' : Heap} {v r} (x : IsRule g v r) (u : Up g g') : IsRule g' v r := let ⟨a, b, c, t⟩ := x; ⟨a, b, c, t.up u⟩
def IsRuleO (g : Heap) (v : Value) (o : Option Rule) : Prop := match o with | none => v = .none | some r => IsRule g v r

section
variable {w : World} {cf : Cfg}

theorem c_is_figure (N : GN cf) (c : Nat) (t : Tok) : Gives w 1 (.ref (cf.ad 2)) [.str (T [c]) t] (TopA cf) (VB (isF c)) := by
  refine gives_of ["sign"] (vals := [some (.str (T [c]) t)]) (fun g p => ⟨p.f2, p.gd.nolimit⟩) ?_ (by decide +kernel) ndS2 fnS2 0 (by kernel_rfl!) ?_
  · intro fd h1 h2
    obtain ⟨⟩ := fd
    dsimp only at h1 h2
    subst h1 h2
    rfl
  intro A e B g R E p
  conv in bodyOf _ => whnf
  exact BlF.ret (EvF.andB (EvF.leT1 (EvF.sg 48) (EvF.localT nS2_sign rfl)) fun _ => EvF.and1 (EvF.leT1 (EvF.localT nS2_sign rfl) (EvF.sg 57))) fun g y u h => h

section
variable {A : Around} {e : Env} {sc : Scope} {B : Base} {g₀ : Heap} {vals : List (Option Value)} {pos p : Pos} {i : Nat} {x y : Expr} {l : List Nat} {k : Nat}
theorem EvF.word_run (N : GN cf) (p' : TopA cf g₀) (R : Room A 1) (hn : nmAt sc "_word_run" = some (i, .globalImplicit)) (hx : EvF w A e sc B vals g₀ x (VT l)) (hy : EvF w A e sc B vals g₀ y (VN k)) (hl : l.length ≤ sizeLine)
    (he : starEach [x, y] e = (false, eval x e) :: starEach [y] e := by rfl) (he' : starEach [y] e = (false, eval y e) :: starEach [] e := by rfl) (hp : (backTo pos (starEach [x, y] e)).any (·.1) = false := by rfl) :
    EvF w A e sc B vals g₀ (.Call (.Name "_word_run" p) [x, y] [] pos) (VN (wordRun l k)) :=
  EvF.callD (EvF.glob p'.gd hn N.wr) p'.f1 (EvL.two hx Mono.vs hy Mono.vi he he') R (fun g vs u ⟨v, z, e1, ⟨t, e2⟩, u', e3⟩ => by
    subst e1 e2 e3
    exact ⟨_, p'.up u, c_word_run N l t k u' hl⟩) hp
theorem EvF.is_figure (N : GN cf) (p' : TopA cf g₀) (R : Room A 1) (hn : nmAt sc "_is_figure" = some (i, .globalImplicit)) (hx : EvF w A e sc B vals g₀ x (VT [k]))
    (he : starEach [x] e = (false, eval x e) :: starEach [] e := by rfl) (hp : (backTo pos (starEach [x] e)).any (·.1) = false := by rfl) :
    EvF w A e sc B vals g₀ (.Call (.Name "_is_figure" p) [x] [] pos) (VB (isF k)) :=
  EvF.callD (EvF.glob p'.gd hn N.isf) p'.f2 (EvL.one hx Mono.vs he) R (fun g vs u ⟨v, e1, t, e2⟩ => by
    subst e1 e2
    exact ⟨_, p'.up u, c_is_figure N k t⟩) hp
end

theorem EvF.rule5 {A : Around} {e : Env} {sc : Scope} {B : Base} {g₀ : Heap} {vals : List (Option Value)} {pos : Pos} {j : Nat} {a b c d f : Expr} {r : Rule} (ha : EvF w A e sc B vals g₀ a (VT r.en)) (hb : EvF w A e sc B vals g₀ b (VB r.al))
    (hc : EvF w A e sc B vals g₀ c (VN r.n)) (hd : EvF w A e sc B vals g₀ d (VT r.mo)) (hf : EvF w A e sc B vals g₀ f (VB r.on))
    (h1 : starEach [a, b, c, d, f] e = (false, eval a e) :: starEach [b, c, d, f] e := by rfl) (h2 : starEach [b, c, d, f] e = (false, eval b e) :: starEach [c, d, f] e := by rfl)
    (h3 : starEach [c, d, f] e = (false, eval c e) :: starEach [d, f] e := by rfl) (h4 : starEach [d, f] e = (false, eval d e) :: starEach [f] e := by rfl) (h5 : starEach [f] e = (false, eval f e) :: starEach [] e := by rfl) :
    EvF w A e sc B vals g₀ (.Tuple [a, b, c, d, f] j pos) (fun g v => IsRule g v r) := by
  have L : EvL w A e sc B vals g₀ pos [a, b, c, d, f] (fun _ vs => ∃ t1 t2 t3, vs = [.str (T r.en) t1, .bool r.al, .int (r.n : Int) t2, .str (T r.mo) t3, .bool r.on]) :=
    (EvL.cons ha Mono.vs (EvL.cons hb Mono.vb (EvL.cons hc Mono.vi (EvL.cons hd Mono.vs (EvL.cons hf Mono.vb EvL.nil h5) h4) h3) h2) h1).weak
      fun g vs _ ⟨v1, u1, e1, ⟨t1, w1⟩, v2, u2, e2, w2, v3, u3, e3, ⟨t2, w3⟩, v4, u4, e4, ⟨t3, w4⟩, v5, u5, e5, w5, e6⟩ => ⟨t1, t2, t3, by rw [e1, e2, e3, e4, e5, e6, w1, w2, w3, w4, w5]⟩
  exact (EvF.tuple (fun _ _ _ _ x => x) L (fun _ _ ⟨_, _, _, e⟩ => by rw [e, sizeLine_eq]; simp)).weak fun g v _ ⟨vs, h, t1, t2, t3, e⟩ => ⟨t1, t2, t3, e ▸ h⟩

theorem c_read_rule (N : GN cf) (l : List Nat) (t : Tok) (hl : l.length ≤ 640) : Gives w 2 (.ref (cf.ad 3)) [.str (T l) t] (TopA cf) (fun g v => IsRuleO g v (readRule l)) := by
  have hs : l.length ≤ sizeLine := by rw [sizeLine_eq]; omega
  refine gives_of ["line"] (vals := [some (.str (T l) t), none, none, none, none]) (fun g p => ⟨p.f3, p.gd.nolimit⟩) ?_ (by decide +kernel) ndS3 fnS3 4 (by kernel_rfl!) ?_
  · intro fd h1 h2
    obtain ⟨⟩ := fd
    dsimp only at h1 h2
    subst h1 h2
    rfl
  intro A e B g R E p'
  conv in bodyOf _ => whnf
  have G := p'.gd
  refine BlF.assign (EvF.word_run N p' R nS3__word_run (EvF.localT nS3_line rfl) (EvF.num 0) hs) nS3_k ?_
  rintro g₁ y u₁ ⟨tk, rfl⟩
  have hK : wordRun l 0 ≤ l.length := wordRun_le (Nat.zero_le _)
  generalize hKe : wordRun l 0 = K at hK
  have hR : readRule l = (if (decide (0 < K) && (decide (K < l.length) && ([l.getD K 0] == [42]))) = true then
      (if (decide (K + 1 < figRun l (K + 1)) && (decide (wordRun l (figRun l (K + 1)) < l.length) && isE (l.getD (wordRun l (figRun l (K + 1))) 0))) = true then
        some ⟨l.take K, true, NumText.digitsVal ((l.drop (K + 1)).take (figRun l (K + 1) - (K + 1))), (l.drop (figRun l (K + 1))).take (wordRun l (figRun l (K + 1)) - figRun l (K + 1)), [l.getD (wordRun l (figRun l (K + 1))) 0] == [62]⟩ else none)
    else (if (decide (0 < back l (K - 1)) && (decide (K < l.length) && isE (l.getD K 0))) = true then
      some ⟨l.take (back l (K - 1)), false, NumText.digitsVal [l.getD (back l (K - 1)) 0], (l.drop (back l (K - 1) + 1)).take (K - (back l (K - 1) + 1)), [l.getD K 0] == [62]⟩ else none)) := by
    subst hKe; rfl
  rw [hR]
  have G₁ := G.up u₁
  refine BlF.ite1 (TsF.and (TsF.gtN (EvF.localN nS3_k rfl) (EvF.num 0)) fun _ => TsF.and (TsF.ltN (EvF.localN nS3_k rfl) (EvF.lenT (EvF.bltin G₁ nS3_len N.len rfl) (EvF.localT nS3_line rfl) hs)) fun h2 =>
    TsF.and1 (TsF.eqT (EvF.itemT (EvF.localT nS3_line rfl) (EvF.localN nS3_k rfl) (by simpa using h2) hs) (EvF.sg 42))) ?_ ?_
  · intro hb
    rw [if_pos hb]
    simp only [Bool.and_eq_true, decide_eq_true_eq] at hb
    obtain ⟨h1, h2, h3⟩ := hb
    refine BlF.assign (EvF.addN (EvF.localN nS3_k rfl) (EvF.num 1)) nS3_p ?_
    rintro g₂ y u₂ ⟨tp, rfl⟩
    refine BlF.assign (EvF.localN nS3_p rfl) nS3_q ?_
    rintro g₃ y u₃ ⟨tq, rfl⟩
    have hQ1 := figRun_le (l := l) (k := K + 1) h2
    have hQ2 := figRun_ge (l := l) (k := K + 1)
    generalize hQe : figRun l (K + 1) = Q at hQ1 hQ2
    have u03 := u₁.tr (u₂.tr u₃)
    refine BlF.while (fun n g' v => ∃ (qi : Nat) (t' : Tok), v = [some (.str (T l) t), some (.int K tk), some (.int ((K + 1 : Nat) : Int) tp), some (.int qi t'), none] ∧ figRun l qi = Q ∧ n = l.length - qi)
      (fun g' v => ∃ (t' : Tok), v = [some (.str (T l) t), some (.int K tk), some (.int ((K + 1 : Nat) : Int) tp), some (.int Q t'), none]) ?_ (l.length - (K + 1)) (fun g' _ => ⟨K + 1, tq, rfl, hQe, rfl⟩) ?_
    · rintro n g₄ v u₄ ⟨qi, t', rfl, hq, rfl⟩
      have u04 := u03.tr u₄
      refine ⟨_, TsF.and (TsF.ltN (EvF.localN nS3_q rfl) (EvF.lenT (EvF.bltin (G.up u04) nS3_len N.len rfl) (EvF.localT nS3_line rfl) hs)) fun h2 =>
        TsF.and1 (TsF.val (EvF.is_figure N (p'.up u04) (R.le (by omega)) nS3__is_figure (EvF.itemT (EvF.localT nS3_line rfl) (EvF.localN nS3_q rfl) (by simpa using h2) hs))), ?_, ?_⟩
      · intro hb
        simp only [Bool.and_eq_true, decide_eq_true_eq] at hb
        have h4 := figRun_step hb.1
        rw [if_pos hb.2, hq] at h4
        exact BlF.incI nS3_q rfl EvF.int fun g₅ t₅ u₅ => BlF.nil fun g₆ u₆ => ⟨l.length - (qi + 1), by omega, qi + 1, t₅, rfl, h4.symm, rfl⟩
      · intro hb g₅ u₅
        have h4 : Q = qi := by
          by_cases c : qi < l.length
          · have h4 := figRun_step c
            have : isF (l.getD qi 0) = false := by
              rw [decide_eq_true c, Bool.true_and] at hb
              exact hb
            rw [this, if_neg Bool.false_ne_true, hq] at h4
            exact h4
          · rw [← hq, figRun_end (by omega)]
        subst h4
        exact ⟨t', rfl⟩
    · rintro g₄ v u₄ ⟨t', rfl⟩
      have u04 := u03.tr u₄
      refine BlF.assign (EvF.word_run N (p'.up u04) R nS3__word_run (EvF.localT nS3_line rfl) (EvF.localN nS3_q rfl) hs) nS3_r ?_
      rintro g₅ y u₅ ⟨tr, rfl⟩
      have hW1 := wordRun_le (l := l) (k := Q) hQ1
      have hW2 := wordRun_ge (l := l) (k := Q)
      generalize hWe : wordRun l Q = W at hW1 hW2
      have u05 := u04.tr u₅
      refine BlF.ite1 (TsF.and (TsF.gtN (EvF.localN nS3_q rfl) (EvF.localN nS3_p rfl)) fun _ => TsF.and (TsF.ltN (EvF.localN nS3_r rfl) (EvF.lenT (EvF.bltin (G.up u05) nS3_len N.len rfl) (EvF.localT nS3_line rfl) hs)) fun h2 =>
        TsF.and1 (TsF.or (TsF.eqT (EvF.itemT (EvF.localT nS3_line rfl) (EvF.localN nS3_r rfl) (by simpa using h2) hs) (EvF.sg 46)) fun _ =>
          TsF.or1 (TsF.eqT (EvF.itemT (EvF.localT nS3_line rfl) (EvF.localN nS3_r rfl) (by simpa using h2) hs) (EvF.sg 62)))) ?_ ?_
      · intro hb
        have hb : (decide (K + 1 < Q) && (decide (W < l.length) && isE (l.getD W 0))) = true := hb
        rw [if_pos hb]
        simp only [Bool.and_eq_true, decide_eq_true_eq] at hb
        obtain ⟨h5, h6, h7⟩ := hb
        have hD : NumText.AllDigits ((l.drop (K + 1)).take (Q - (K + 1))) := by
          have : Q - (K + 1) = figLen (l.drop (K + 1)) := by rw [← hQe]; unfold figRun; omega
          rw [this]; exact figLen_all _
        refine BlF.ret (EvF.rule5 (EvF.cutTo (EvF.localT nS3_line rfl) (EvF.localN nS3_k rfl) hs) EvF.bool
          (EvF.intT (EvF.bltin (G.up u05) nS3_int N.int rfl) (EvF.cut (EvF.localT nS3_line rfl) (EvF.localN nS3_p rfl) (EvF.localN nS3_q rfl) hs hQ2 hQ1) (by rw [List.length_take, List.length_drop]; omega) hD
            (fun z => by have := congrArg List.length z; rw [List.length_take, List.length_drop] at this; simp at this; omega))
          (EvF.cut (EvF.localT nS3_line rfl) (EvF.localN nS3_q rfl) (EvF.localN nS3_r rfl) hs hW2 hW1) (EvF.eqT (EvF.itemT (EvF.localT nS3_line rfl) (EvF.localN nS3_r rfl) h6 hs) (EvF.sg 62))) fun g y u hy => hy
      · intro hb
        have hb : (decide (K + 1 < Q) && (decide (W < l.length) && isE (l.getD W 0))) = false := hb
        rw [if_neg (by rw [hb]; exact Bool.false_ne_true)]
        exact BlF.ret EvF.noneC fun g y u hy => hy
  · intro hb
    rw [if_neg (by rw [hb]; exact Bool.false_ne_true)]
    refine BlF.assign (EvF.subI (EvF.localN nS3_k rfl) EvF.int) nS3_p ?_
    rintro g₂ y u₂ ⟨tp, rfl⟩
    have u02 := u₁.tr u₂
    have hP := back_le l (K - 1)
    have hPf := back_fig l (K - 1)
    generalize hPe : back l (K - 1) = P at hP hPf
    refine BlF.while (fun n g' v => ∃ (m : Int) (t' : Tok), v = [some (.str (T l) t), some (.int K tk), some (.int m t'), none, none] ∧ back l m.toNat = P ∧ m ≤ (K : Int) - 1 ∧ n = m.toNat)
      (fun g' v => ∃ (m : Int) (t' : Tok), v = [some (.str (T l) t), some (.int K tk), some (.int m t'), none, none] ∧ m.toNat = P) ?_ _ (fun g' _ => ⟨(K : Int) - 1, tp, rfl, by rw [← hPe]; congr 1; omega, Int.le_refl _, rfl⟩) ?_
    · rintro n g₄ v u₄ ⟨m, t', rfl, hm, hle, rfl⟩
      have u04 := u02.tr u₄
      refine ⟨decide (0 < m) && !isF (l.getD m.toNat 0), TsF.and (TsF.gtI (EvF.localI nS3_p rfl) EvF.int) fun h2 => ?_, ?_, ?_⟩
      · have h2 : 0 < m := by simpa using h2
        obtain ⟨k', rfl⟩ := Int.eq_ofNat_of_zero_le (Int.le_of_lt h2)
        exact TsF.and1 (TsF.not (TsF.val (EvF.is_figure N (p'.up u04) (R.le (by omega)) nS3__is_figure (EvF.itemT (EvF.localT nS3_line rfl) (EvF.localN nS3_p rfl) (by omega) hs))))
      · intro hb
        simp only [Bool.and_eq_true, decide_eq_true_eq, Bool.not_eq_true'] at hb
        obtain ⟨k', rfl⟩ := Int.eq_ofNat_of_zero_le (Int.le_of_lt hb.1)
        cases k' with
        | zero => exact absurd hb.1 (by decide)
        | succ k' =>
        have h4 : back l (k' + 1) = back l k' := by
          show (if isF (l.getD (k' + 1) 0) then _ else _) = _
          have h5 : isF (l.getD (k' + 1) 0) = false := hb.2
          rw [h5]; rfl
        refine BlF.decI nS3_p rfl EvF.int fun g₅ t₅ u₅ => BlF.nil fun g₆ u₆ => ⟨_, ?_, ((k' + 1 : Nat) : Int) - 1, t₅, rfl, ?_, by omega, rfl⟩
        · omega
        · rw [← hm, show (((k' + 1 : Nat) : Int) - 1).toNat = k' by omega]; exact h4.symm
      · intro hb g₅ u₅
        refine ⟨m, t', rfl, ?_⟩
        by_cases c : 0 < m
        · rw [decide_eq_true c, Bool.true_and, Bool.not_eq_false'] at hb
          obtain ⟨k', rfl⟩ := Int.eq_ofNat_of_zero_le (Int.le_of_lt c)
          cases k' with
          | zero => exact absurd c (by decide)
          | succ k' =>
            rw [← hm]
            show _ = (if isF (l.getD (k' + 1) 0) then _ else _)
            have h5 : isF (l.getD (k' + 1) 0) = true := hb
            rw [h5]; rfl
        · have : m.toNat = 0 := by omega
          rw [← hm, this]; rfl
    · rintro g₄ v u₄ ⟨m, t', rfl, hm⟩
      have u04 := u02.tr u₄
      refine BlF.ite1 (b := decide (0 < P) && (decide (K < l.length) && isE (l.getD K 0))) ?_ ?_ ?_
      · have : decide (0 < P) = decide (0 < m) := by
          subst hm; by_cases c : 0 < m
          · rw [decide_eq_true c, decide_eq_true (by omega)]
          · rw [decide_eq_false c, decide_eq_false (by omega)]
        rw [this]
        exact TsF.and (TsF.gtI (EvF.localI nS3_p rfl) EvF.int) fun _ => TsF.and (TsF.ltN (EvF.localN nS3_k rfl) (EvF.lenT (EvF.bltin (G.up u04) nS3_len N.len rfl) (EvF.localT nS3_line rfl) hs)) fun h2 =>
          TsF.and1 (TsF.or (TsF.eqT (EvF.itemT (EvF.localT nS3_line rfl) (EvF.localN nS3_k rfl) (by simpa using h2) hs) (EvF.sg 46)) fun _ =>
            TsF.or1 (TsF.eqT (EvF.itemT (EvF.localT nS3_line rfl) (EvF.localN nS3_k rfl) (by simpa using h2) hs) (EvF.sg 62)))
      · intro hb
        rw [if_pos hb]
        simp only [Bool.and_eq_true, decide_eq_true_eq] at hb
        obtain ⟨h5, h6, h7⟩ := hb
        have : m = (P : Int) := by omega
        subst this
        have hd := hPf h5
        refine BlF.ret (EvF.rule5 (EvF.cutTo (EvF.localT nS3_line rfl) (EvF.localN nS3_p rfl) hs) EvF.bool
          (EvF.intT (EvF.bltin (G.up u04) nS3_int N.int rfl) (EvF.itemT (EvF.localT nS3_line rfl) (EvF.localN nS3_p rfl) (by omega) hs) (by simp) (by
            intro c hc
            rw [List.mem_singleton] at hc
            subst hc
            simpa [isF] using hd) (by simp))
          (EvF.cut (EvF.localT nS3_line rfl) (EvF.addN (EvF.localN nS3_p rfl) (EvF.num 1)) (EvF.localN nS3_k rfl) hs (by omega) (by omega)) (EvF.eqT (EvF.itemT (EvF.localT nS3_line rfl) (EvF.localN nS3_k rfl) h6 hs) (EvF.sg 62))) fun g y u hy => hy
      · intro hb
        rw [if_neg (by rw [hb]; exact Bool.false_ne_true)]
        exact BlF.ret EvF.noneC fun g y u hy => hy
end
end Mine

end

section
open PySem PySem.W PyProof.Rows PySem.Calls
set_option Elab.async false
set_option linter.unusedVariables false
set_option maxRecDepth 100000
namespace Mine

/-! ## the first vowel -/
def isV (c : Nat) : Bool := decide (c ∈ [97, 101, 105, 111, 117])
def firstVowel (l : List Nat) : Nat :=
  let v := l.findIdx isV
  let y := l.findIdx (· == 121)
  if 0 < y ∧ y < v then y else v
def vows : List Nat := [97, 101, 105, 111, 117]
def vowPlaces (l : List Nat) : List Int := ((List.range 5).filter fun i => decide (-1 < findT l (vows.getD i 0))).map fun i => findT l (vows.getD i 0)
theorem findT_ge (l : List Nat) (c : Nat) : -1 ≤ findT l c := by unfold findT; split <;> omega
theorem findT_pos {l : List Nat} {c : Nat} : -1 < findT l c ↔ c ∈ l := by
  unfold findT
  split
  · exact ⟨fun _ => by assumption, fun _ => by omega⟩
  · exact ⟨fun h => absurd h (by omega), fun h => absurd h (by assumption)⟩
theorem vowPlaces_mem {l : List Nat} {M : Int} : M ∈ vowPlaces l ↔ ∃ c, isV c = true ∧ c ∈ l ∧ M = (l.findIdx (· == c) : Nat) := by
  unfold vowPlaces
  rw [List.mem_map]
  constructor
  · rintro ⟨i, hi, rfl⟩
    rw [List.mem_filter, List.mem_range] at hi
    have h2 := findT_pos.mp (of_decide_eq_true hi.2)
    refine ⟨vows.getD i 0, ?_, h2, by unfold findT; rw [if_pos h2]⟩
    have : ∀ i, i < 5 → isV (vows.getD i 0) = true := by decide
    exact this i hi.1
  · rintro ⟨c, hc, hm, rfl⟩
    have hc' : c ∈ vows := of_decide_eq_true hc
    obtain ⟨i, hi, e⟩ := List.mem_iff_getElem.mp hc'
    have e' : vows.getD i 0 = c := by rw [List.getD_eq_getElem?_getD, List.getElem?_eq_getElem hi, e]; rfl
    refine ⟨i, List.mem_filter.mpr ⟨List.mem_range.mpr hi, ?_⟩, ?_⟩
    · rw [e']; exact decide_eq_true (findT_pos.mpr hm)
    · rw [e']; unfold findT; rw [if_pos hm]
theorem first_min {l : List Nat} {M : Int} (hm : M ∈ vowPlaces l) (hle : ∀ a ∈ vowPlaces l, M ≤ a) : M = (l.findIdx isV : Nat) := by
  obtain ⟨c, hc, hcl, rfl⟩ := vowPlaces_mem.mp hm
  have h1 : l.findIdx (· == c) < l.length := List.findIdx_lt_length_of_exists ⟨c, hcl, by simp⟩
  have e1 : l[l.findIdx (· == c)] = c := by
    have := List.findIdx_getElem (w := h1)
    simpa using this
  have ex : ∃ x ∈ l, isV x = true := ⟨c, hcl, hc⟩
  have h2 : l.findIdx isV < l.length := List.findIdx_lt_length_of_exists ex
  have e2 : isV l[l.findIdx isV] = true := List.findIdx_getElem (w := h2)
  have le1 : l.findIdx isV ≤ l.findIdx (· == c) := by
    by_cases h : l.findIdx (· == c) < l.findIdx isV
    · have := List.not_of_lt_findIdx h
      rw [e1, hc] at this
      exact absurd this (by simp)
    · omega
  have le2 := hle _ (vowPlaces_mem.mpr ⟨l[l.findIdx isV], e2, List.getElem_mem h2, rfl⟩)
  have le3 : l.findIdx (· == l[l.findIdx isV]) ≤ l.findIdx isV := by
    by_cases h : l.findIdx isV < l.findIdx (· == l[l.findIdx isV])
    · have := List.not_of_lt_findIdx h
      simp at this
    · omega
  omega
theorem vowPlaces_ne {l : List Nat} (h : ∃ c ∈ l, isV c = true) : vowPlaces l ≠ [] := by
  obtain ⟨c, hc, hv⟩ := h
  intro z
  have := vowPlaces_mem.mpr ⟨c, hv, hc, rfl⟩
  rw [z] at this
  cases this

section
variable {w : World} {cf : Cfg}

theorem c_first_vowel (N : GN cf) (sv : Value) (l : List Nat) (t : Tok) (hl : l.length ≤ sizeLine) (hv : ∃ c ∈ l, isV c = true) : Gives w 1 (.ref (cf.ad 102)) [sv, .str (T l) t] (TopA cf) (VN (firstVowel l)) := by
  refine gives_of ["self", "word"] (vals := [some sv, some (.str (T l) t), none, none]) (fun g p => ⟨p.m2, p.gd.nolimit⟩) ?_ (by decide +kernel) ndM2 fnM2 1 (by kernel_rfl!) ?_
  · intro fd h1 h2
    obtain ⟨⟩ := fd
    dsimp only at h1 h2
    subst h1 h2
    rfl
  intro A e B g R E p
  have G := p.gd
  conv in bodyOf _ => whnf
  refine BlF.assign (EvF.minL (ns := vowPlaces l) R.handled (EvF.bltin G nM2_min N.min rfl) (EvF.listComp 1 R.handled (EvF.listComp 1 R.handled (EvF.strT (l := vows)) [none, none, some (.str (T l) t)] (by kernel_rfl!) (by decide +kernel) (by decide +kernel) (by decide +kernel) (by decide +kernel) (by decide +kernel)
      (Wl := fun _ ys => IntsOf ((List.range 5).map fun i => findT l (vows.getD i 0)) ys) ?_) [none, none] (by kernel_rfl!) (by decide +kernel) (by decide +kernel) (by decide +kernel) (by decide +kernel) (by decide +kernel) ?_) (vowPlaces_ne hv)) nM2_vp ?_
  · rintro g₁ v u₁ ⟨t₁, rfl⟩
    refine ⟨vows.length, _, fun _ => true, fun i _ y => ∃ t, y = .int (findT l (vows.getD i 0)) t, fun i _ _ _ _ h => h, Iter.str, by decide +kernel, ?_, ?_⟩
    · rintro cenv B' i y g₂ E' hi ⟨u', rfl⟩ ug
      exact ⟨.inl ⟨rfl, rfl⟩, fun _ => EvF.find1 (EvF.cellT (i := 2) (by decide +kernel) rfl) (EvF.localT (i := 1) (by decide +kernel) rfl)⟩
    · intro g₂ ys ug h
      have e : (List.range vows.length).filter (fun _ => true) = List.range 5 := by decide
      unfold Sel at h
      rw [e] at h
      exact All2.map h
  · rintro g₁ v u₁ ⟨ys, hl, hi⟩
    have hlen : ys.length = 5 := by have := All2.len hi; simpa using this.symm
    refine ⟨ys.length, _, fun i => decide (-1 < findT l (vows.getD i 0)), fun i _ y => ∃ t, y = .int (findT l (vows.getD i 0)) t, fun i _ _ _ _ h => h, Iter.list hl, by rw [hlen]; decide +kernel, ?_, ?_⟩
    · rintro cenv B' i y g₂ E' hi' hy ug
      obtain ⟨n, hn, t₂, rfl⟩ := All2.get hi hy
      have : n = findT l (vows.getD i 0) := by
        rw [List.getElem?_map, List.getElem?_range (by omega)] at hn
        simpa using hn.symm
      subst this
      exact ⟨.inr ⟨_, rfl, TsF.gtI (EvF.localI (i := 1) (by decide +kernel) rfl) (EvF.neg EvF.int)⟩, fun _ => (EvF.local (i := 1) (by decide +kernel) rfl).weak fun _ _ _ e => ⟨_, e⟩⟩
    · intro g₂ zs ug h
      rw [hlen] at h
      exact All2.map h
  · rintro g₁ v u₁ ⟨M, t₁, rfl, hM, hle⟩
    have hM' := first_min hM hle
    subst hM'
    have G₁ := G.up u₁
    refine BlF.assign (EvF.find1 (EvF.cellT nM2_word rfl) (EvF.sg 121)) nM2_yp ?_
    rintro g₂ v u₂ ⟨t₂, rfl⟩
    have hy : findT l 121 = (l.findIdx (· == 121) : Nat) ∧ 121 ∈ l ∨ findT l 121 = -1 ∧ l.findIdx (· == 121) = l.length := by
      unfold findT
      by_cases h : 121 ∈ l
      · exact .inl ⟨by rw [if_pos h], h⟩
      · refine .inr ⟨by rw [if_neg h], ?_⟩
        rw [List.findIdx_eq_length]
        intro x hx
        have : x ≠ 121 := fun z => h (z ▸ hx)
        simpa using this
    have hvl : l.findIdx isV < l.length := List.findIdx_lt_length_of_exists hv
    refine BlF.ite1 (b := decide (0 < l.findIdx (· == 121)) && decide (l.findIdx (· == 121) < l.findIdx isV)) ?_ ?_ ?_
    · have e : (decide ((0 : Int) < findT l 121) && decide (findT l 121 < ((l.findIdx isV : Nat) : Int))) = (decide (0 < l.findIdx (· == 121)) && decide (l.findIdx (· == 121) < l.findIdx isV)) := by
        rcases hy with ⟨h1, _⟩ | ⟨h1, h2⟩
        · have c1 : ∀ a : Nat, decide ((0 : Int) < (a : Int)) = decide (0 < a) := fun a => by simp
          have c2 : ∀ a b : Nat, decide ((a : Int) < (b : Int)) = decide (a < b) := fun a b => by simp
          rw [h1, c1, c2]
        · rw [h1, h2, decide_eq_false (by omega : ¬ (0 : Int) < -1), decide_eq_false (by omega : ¬ l.length < l.findIdx isV)]; simp
      rw [← e]
      exact TsF.and (TsF.gtI (EvF.localI nM2_yp rfl) EvF.int) fun _ => TsF.and1 (TsF.ltI (EvF.localI nM2_yp rfl) (EvF.localI nM2_vp rfl))
    · intro hb
      simp only [Bool.and_eq_true, decide_eq_true_eq] at hb
      refine BlF.ret (EvF.localI nM2_yp rfl) fun g y u hy' => ?_
      unfold firstVowel
      rw [if_pos hb]
      rcases hy with ⟨h1, _⟩ | ⟨h1, h2⟩
      · show VI ((l.findIdx (· == 121) : Nat) : Int) g y
        rw [← h1]; exact hy'
      · omega
    · intro hb
      refine BlF.ret (EvF.localI nM2_vp rfl) fun g y u hy' => ?_
      unfold firstVowel
      rw [if_neg (by rintro ⟨h1, h2⟩; rw [decide_eq_true h1, decide_eq_true h2] at hb; cases hb)]
      exact hy'

/-! ## the beginnings -/
def prefixes : List (List Nat) := [[107, 105, 108, 111], [109, 105, 99, 114, 111], [109, 105, 108, 108, 105], [105, 110, 116, 114, 97], [117, 108, 116, 114, 97], [109, 101, 103, 97], [110, 97, 110, 111], [112, 105, 99, 111], [112, 115, 101, 117, 100, 111]]
def stripGo (l : List Nat) : List (List Nat) → List Nat
  | [] => l
  | p :: r => if startsT l p then l.drop p.length else stripGo l r
def stripPrefix (l : List Nat) : List Nat := stripGo l prefixes

set_option maxHeartbeats 4000000 in
theorem c_strip_prefix (N : GN cf) (sv : Value) (l : List Nat) (t : Tok) (hl : l.length ≤ sizeLine) : Gives w 1 (.ref (cf.ad 103)) [sv, .str (T l) t] (TopA cf) (VT (stripPrefix l)) := by
  refine gives_of ["self", "word"] (vals := [some sv, some (.str (T l) t), none]) (fun g p => ⟨p.m3, p.gd.nolimit⟩) ?_ (by decide +kernel) ndM3 fnM3 1 (by kernel_rfl!) ?_
  · intro fd h1 h2
    obtain ⟨⟩ := fd
    dsimp only at h1 h2
    subst h1 h2
    rfl
  intro A e B g R E p
  have G := p.gd
  conv in bodyOf _ => whnf
  have hpl : ∀ (i : Nat) (q : List Nat), prefixes[i]? = some q → q.length ≤ 6 := by
    intro i q h
    have := List.mem_of_getElem? h
    exact (by decide : ∀ q ∈ prefixes, q.length ≤ 6) q this
  refine BlF.for (fun _ v => ∃ o, v = [some sv, some (.str (T l) t), o] ∧ stripPrefix l = l) R.handled
    (EvF.tuple strs_up (EvL.strs (ls := prefixes) (by
      repeat refine .cons ⟨_, _, _, rfl, by decide +kernel⟩ ?_
      exact .nil)) (fun _ _ h => by rw [← All2.len h]; decide +kernel)) ?_ ?_
  · rintro g₁ v u₁ ⟨vs, ht, hs⟩
    have hlen : prefixes.length = vs.length := All2.len hs
    refine ⟨vs.length, _, Iter.tuple ht, fun i _ v => ∃ o, v = [some sv, some (.str (T l) t), o] ∧ stripPrefix l = stripGo l (prefixes.drop i), ⟨none, rfl, rfl⟩, ?_, ?_⟩
    · rintro i x g₂ v hi hx u₂ ⟨o, rfl, hj⟩
      obtain ⟨q, hq, t₂, rfl⟩ := All2.get hs hx
      refine ⟨_, AsF.name nM3_prefix (by simp), fun B' => ?_⟩
      have hdrop : prefixes.drop i = q :: prefixes.drop (i + 1) := by
        have h1 : i < prefixes.length := by omega
        rw [List.drop_eq_getElem_cons h1]
        rw [List.getElem?_eq_getElem h1] at hq
        cases hq; rfl
      rw [hdrop] at hj
      have hj : stripPrefix l = if startsT l q then l.drop q.length else stripGo l (prefixes.drop (i + 1)) := hj
      have hq6 := hpl i q hq
      refine BlF.ite1 (TsF.val (EvF.startswith (EvF.localT nM3_word rfl) (EvF.localT nM3_prefix rfl))) ?_ ?_
      · intro hb
        rw [hb] at hj
        refine BlF.ret (EvF.cutFrom (EvF.localT nM3_word rfl) (EvF.lenT (EvF.bltin (G.up (u₁.tr u₂)) nM3_len N.len rfl) (EvF.localT nM3_prefix rfl) (by rw [sizeLine_eq]; omega)) hl) fun g y u h => ?_
        show VT (stripPrefix l) g y
        rw [hj]; exact h
      · intro hb
        rw [hb] at hj
        exact BlF.nil fun g u => ⟨_, rfl, hj⟩
    · rintro g₂ v u₂ ⟨o, rfl, hj⟩
      rw [← hlen, List.drop_length] at hj
      exact ⟨o, rfl, hj⟩
  · rintro g₁ v u₁ ⟨o, rfl, hj⟩
    refine BlF.ret (EvF.localT nM3_word rfl) fun g y u h => ?_
    show VT (stripPrefix l) g y
    rw [hj]; exact h
end
end Mine

end

section
open PySem PySem.W PyProof.Rows PySem.Calls
set_option Elab.async false
set_option linter.unusedVariables false
set_option maxRecDepth 100000
namespace Mine

/-! ## the stemmer's own stem -/
/-- may the rule be used -/
def fits (t : List Nat) (pv : Nat) (whole : Bool) (r : Rule) : Bool :=
  endsT t r.en && (!(r.al && !whole) && !((pv == 0 && decide (((t.length : Int) - (r.n : Int)) + (r.mo.length : Int) < 2)) || (decide (0 < pv) && decide (((t.length : Int) - (r.n : Int)) + (r.mo.length : Int) < 3))))
def cut (t : List Nat) (r : Rule) : List Nat := (if r.n = 0 then [] else t.take (t.length - r.n)) ++ r.mo
def hasV (t : List Nat) : Bool := t.any isV
/-- the rounds; none: the text raises there, or the rounds are not enough -/
def stemGo (bk : Nat → List Rule) : Nat → List Nat → Bool → Option (List Nat)
  | 0, _, _ => none
  | n + 1, t, whole => if hasV t then
      (match (bk (t.getD (t.length - 1) 0)).find? (fits t (firstVowel t) whole) with
        | none => some t
        | some r => if r.on then stemGo bk n (cut t r) false else some (cut t r))
    else none
def stemOf (bk : Nat → List Rule) (n : Nat) (l : List Nat) : Option (List Nat) :=
  if wordRun l 0 = 0 then some l else stemGo bk n (stripPrefix (l.take (wordRun l 0))) true

/-- the rules as they lie in the dict, by their last sign -/
def RulesAt (w : World) (g : Heap) (d : Addr) (bk : Nat → List Rule) : Prop := ∃ f, g.MapOf (PySem.strKind pw w) d f ∧
  ∀ c, (bk c = [] ∧ f (T [c]) = none) ∨ (bk c ≠ [] ∧ ∃ v vs, f (T [c]) = some v ∧ IsLst g v vs ∧ All2 (fun r v => IsRule g v r) (bk c) vs)
theorem RulesAt.up {w : World} {g g' : Heap} {d : Addr} {bk} (h : RulesAt w g d bk) (u : Up g g') : RulesAt w g' d bk := by
  obtain ⟨f, hm, hf⟩ := h
  refine ⟨f, MapOf.up hm u, fun c => (hf c).imp id fun ⟨a, v, vs, b, l, r⟩ => ⟨a, v, vs, b, l.up u, r.imp fun _ _ x => x.up u⟩⟩
/-- a stemmer stands -/
structure StemAt (cf : Cfg) (w : World) (g : Heap) (x : Addr) (bk : Nat → List Rule) : Prop where
  at_ : ∃ d, InsOf g cf.C x (.ref d) ∧ (d == sysModules) = false ∧ RulesAt w g d bk
theorem StemAt.up {cf : Cfg} {w : World} {g g' : Heap} {x : Addr} {bk} (h : StemAt cf w g x bk) (u : Up g g') : StemAt cf w g' x bk := ⟨let ⟨d, a, b, c⟩ := h.at_; ⟨d, a.up u, b, c.up u⟩⟩

theorem T_cut (t : List Nat) (n : Nat) : Txt.slice (T t) none (some ((0 : Int) - (n : Int))) = T (if n = 0 then [] else t.take (t.length - n)) := by
  by_cases h : n = 0
  · subst h
    rw [if_pos rfl, T_to (by decide)]; rfl
  · rw [if_neg h, T_to_neg (by omega)]
    congr 2; omega

section
variable {w : World} {cf : Cfg}

theorem c_stem (N : GN cf) (x : Addr) (bk : Nat → List Rule) (l : List Nat) (t : Tok) (n : Nat) (res : List Nat) (M : Nat) (hb : ∀ c, ∀ r ∈ bk c, r.mo.length ≤ M ∧ r.en.length ≤ M) (hbl : ∀ c, (bk c).length ≤ M) (hl : l.length + n * M + M ≤ sizeLine)
    (hres : stemOf bk n l = some res) : Gives w 2 (.ref (cf.ad 104)) [.ref x, .str (T l) t] (fun g => TopA cf g ∧ StemAt cf w g x bk) (VT res) := by
  have hl1 : l.length ≤ sizeLine := by omega
  refine gives_of ["self", "word"] (vals := [some (.ref x), some (.str (T l) t), none, none, none, none, none, none, none, none, none, none, none, none, none]) (fun g p => ⟨p.1.m4, p.1.gd.nolimit⟩) ?_ (by decide +kernel) ndM4 fnM4 2 (by kernel_rfl!) ?_
  · intro fd h1 h2
    obtain ⟨⟩ := fd
    dsimp only at h1 h2
    subst h1 h2
    rfl
  intro A e B g R E ⟨p, sa⟩
  have G := p.gd
  obtain ⟨d, ⟨dx, es, nn, i1, i2, i3, i4, i5, i6, i7⟩, hd, hr⟩ := sa.at_
  conv in bodyOf _ => whnf
  refine BlF.assign (EvF.attrI N p.kin (EvF.local nM4_self rfl) N.kr ⟨dx, es, nn, i1, i2, i3⟩ rfl) nM4_rules ?_
  rintro g₁ y u₁ rfl
  refine BlF.assign (EvF.word_run N (p.up u₁) (R.le (by omega)) nM4__word_run (EvF.localT nM4_word rfl) (EvF.num 0) hl1) nM4_k ?_
  rintro g₂ y u₂ ⟨tk, rfl⟩
  have u02 := u₁.tr u₂
  have hK := wordRun_le (l := l) (k := 0) (Nat.zero_le _)
  unfold stemOf at hres
  generalize wordRun l 0 = K at hres hK
  refine BlF.ite1 (b := !((K : Int) != 0)) (TsF.not (TsF.tru (EvF.local nM4_k rfl) fun g v _ e => by subst e; exact Tru.int)) ?_ ?_
  · intro hb0
    have hK0 : K = 0 := by simpa using hb0
    rw [if_pos hK0] at hres
    cases hres
    exact BlF.ret (EvF.localT nM4_word rfl) fun g y u h => h
  intro hb0
  have hK0 : K ≠ 0 := by simpa using hb0
  rw [if_neg hK0] at hres
  have ins : ∀ g', Up g g' → ∀ name : Str, getL name es = some none → ∃ dx es n, g'.get? x = some (instObj cf.C dx) ∧ g'.get? dx = some (dictOf es n) ∧ getL name es = some none := fun g' u name h => ⟨dx, es, nn, u _ _ i1, u _ _ i2, h⟩
  have hsp : (stripPrefix (l.take K)).length ≤ l.length := by
    have go : ∀ ps, (stripGo (l.take K) ps).length ≤ (l.take K).length := fun ps => by
      induction ps with
      | nil => exact Nat.le_refl _
      | cons q r ih =>
        unfold stripGo
        split
        · rw [List.length_drop]; omega
        · exact ih
    have := go prefixes
    rw [List.length_take] at this
    unfold stripPrefix; omega
  refine BlF.assign (EvF.callM (W := VT (stripPrefix (l.take K))) N (p.up u02).kin (EvF.local nM4_self rfl) N.k3 N.t3 (p.up u02).m3 (ins g₂ u02 _ i5) (EvL.one (EvF.cutTo (EvF.localT nM4_word rfl) (EvF.localN nM4_k rfl) hl1) Mono.vs) R
    (fun g vs u ⟨v, e1, t', e2⟩ => ⟨TopA cf, p.up (u02.tr u), by subst e1 e2; exact c_strip_prefix N (.ref x) (l.take K) t' (by rw [List.length_take]; omega)⟩)) nM4_stem ?_
  rintro g₃ y u₃ ⟨ts, rfl⟩
  refine BlF.assign EvF.bool nM4_is_intact ?_
  rintro g₄ y u₄ rfl
  refine BlF.assign EvF.bool nM4_continuing ?_
  rintro g₅ y u₅ rfl
  have u05 := u02.tr (u₃.tr (u₄.tr u₅))
  refine BlF.while (fun m g' v => ∃ (s' : List Nat) (ts : Tok) (wh co : Bool) (o7 o8 o9 o10 o11 o12 o13 o14 : Option Value),
      v = [some (.ref x), some (.str (T l) t), some (.ref d), some (.int K tk), some (.str (T s') ts), some (.bool wh), some (.bool co), o7, o8, o9, o10, o11, o12, o13, o14] ∧
      (co = true → stemGo bk m s' wh = some res) ∧ (co = false → s' = res) ∧ s'.length + m * M + M ≤ sizeLine)
    (fun g' v => ∃ (ts : Tok) (o5 o6 o7 o8 o9 o10 o11 o12 o13 o14 : Option Value),
      v = [some (.ref x), some (.str (T l) t), some (.ref d), some (.int K tk), some (.str (T res) ts), o5, o6, o7, o8, o9, o10, o11, o12, o13, o14]) ?_ n
    (fun g' _ => ⟨_, ts, true, true, none, none, none, none, none, none, none, none, rfl, fun _ => hres, (fun z => by cases z), by omega⟩) ?_
  · rintro m g₆ v u₆ ⟨s', ts, wh, co, o7, o8, o9, o10, o11, o12, o13, o14, rfl, hgo, hend, hlen⟩
    refine ⟨co, TsF.localB nM4_continuing rfl, ?_, ?_⟩
    · rintro rfl
      have hgo := hgo rfl
      have u06 := u05.tr u₆
      cases m with
      | zero => cases hgo
      | succ m =>
      unfold stemGo at hgo
      have hv : hasV s' = true := by
        cases h : hasV s' with
        | true => rfl
        | false => rw [h] at hgo; cases hgo
      rw [hv, if_pos rfl] at hgo
      have hv' : ∃ c ∈ s', isV c = true := by simpa [hasV] using hv
      have hs' : s'.length ≤ sizeLine := by omega
      have hpos : 0 < s'.length := by obtain ⟨c, hc, _⟩ := hv'; exact List.length_pos_of_mem hc
      have hm1 : s'.length + (m * M + M) + M ≤ sizeLine := by rw [Nat.succ_mul] at hlen; omega
      refine BlF.assign (EvF.callM (W := VN (firstVowel s')) N (p.up u06).kin (EvF.local nM4_self rfl) N.k2 N.t2 (p.up u06).m2 (ins g₆ u06 _ i6) (EvL.one (EvF.localT nM4_stem rfl) Mono.vs) R
        (fun g vs u ⟨v, e1, t', e2⟩ => ⟨TopA cf, p.up (u06.tr u), by subst e1 e2; exact c_first_vowel N (.ref x) s' t' hs' hv'⟩)) nM4_pfv ?_
      rintro g₇ y u₇ ⟨tp, rfl⟩
      have u07 := u06.tr u₇
      obtain ⟨f, hm, hf⟩ := hr.up u07
      refine BlF.assign (EvF.dictGet (EvF.local nM4_rules rfl) hd hm (EvF.lastT (EvF.localT nM4_stem rfl) (EvF.neg EvF.int) hpos hs')) nM4_rulelist ?_
      rintro g₈ y u₈ rfl
      rcases hf (s'.getD (s'.length - 1) 0) with ⟨hb1, hf1⟩ | ⟨hb1, v, vs, hf1, hvs, hall⟩
      · rw [hf1]
        rw [hb1] at hgo
        cases hgo
        refine BlF.ite1 (TsF.not (TsF.tru (b := false) (EvF.local nM4_rulelist rfl) fun g v _ e => by subst e; exact Tru.none)) (fun _ => BlF.brk fun g u => ⟨ts, _, _, _, _, _, _, _, _, _, _, rfl⟩) ?_
        intro z; cases z
      · rw [hf1]
        have hlen2 := All2.len hall
        have hbl' := hbl (s'.getD (s'.length - 1) 0)
        have hb' := hb (s'.getD (s'.length - 1) 0)
        generalize bk (s'.getD (s'.length - 1) 0) = rs at hgo hb1 hall hlen2 hbl' hb'
        have hne : vs.isEmpty = false := by
          cases vs with
          | nil => cases hall; exact absurd rfl hb1
          | cons _ _ => rfl
        refine BlF.ite1 (TsF.not (TsF.tru (b := !vs.isEmpty) (EvF.local nM4_rulelist rfl) fun g y u e => by subst e; exact Tru.list (hvs.up (u₈.tr u)) (by omega))) (fun z => by rw [hne] at z; cases z) fun _ => ?_
        refine BlF.assign EvF.bool nM4_continuing ?_
        rintro g₉ y u₉ rfl
        have u79 := u₈.tr u₉
        have u09 := u07.tr u79
        have hcutl : ∀ r ∈ rs, (cut s' r).length ≤ s'.length + M := fun r hr' => by
          have := (hb' r hr').1
          unfold cut
          rw [List.length_append]
          split
          · simp; omega
          · rw [List.length_take]; omega
        refine BlF.for (fun g' v => ∃ (s'' : List Nat) (ts : Tok) (wh co : Bool) (o7 o8 o9 o10 o11 o12 o13 o14 : Option Value),
          v = [some (.ref x), some (.str (T l) t), some (.ref d), some (.int K tk), some (.str (T s'') ts), some (.bool wh), some (.bool co), o7, o8, o9, o10, o11, o12, o13, o14] ∧
          (co = true → stemGo bk m s'' wh = some res) ∧ (co = false → s'' = res) ∧ s''.length + m * M + M ≤ sizeLine) R.handled (EvF.local nM4_rulelist rfl) ?_ ?_
        · rintro g₁₀ y u₁₀ rfl
          have hvs' := hvs.up (u79.tr u₁₀)
          refine ⟨vs.length, _, Iter.listT hvs' (fun y hy => ?_), fun i _ v => ∃ o9 o10 o11 o12 o13 o14, v = [some (.ref x), some (.str (T l) t), some (.ref d), some (.int K tk), some (.str (T s') ts), some (.bool wh), some (.bool false),
            some (.int (firstVowel s') tp), some y, o9, o10, o11, o12, o13, o14] ∧ rs.find? (fits s' (firstVowel s') wh) = (rs.drop i).find? (fits s' (firstVowel s') wh), ⟨_, _, _, _, _, _, rfl, rfl⟩, ?_, ?_⟩
          · obtain ⟨i, hi, e1⟩ := List.mem_iff_getElem.mp hy
            obtain ⟨r, _, h⟩ := All2.get hall (List.getElem?_eq_some_iff.mpr ⟨hi, e1⟩)
            obtain ⟨_, _, _, a, h2, _⟩ := h
            exact ⟨a, h2⟩
          · rintro i z g₁₁ v hi hz u₁₁ ⟨o9, o10, o11, o12, o13, o14, rfl, hj⟩
            obtain ⟨r, hri, hr3⟩ := All2.get hall hz
            have hmem : r ∈ rs := List.mem_of_getElem? hri
            have u0b := u09.tr (u₁₀.tr u₁₁)
            obtain ⟨t1, t2, t3, hr4⟩ := hr3.up (u79.tr (u₁₀.tr u₁₁))
            refine ⟨_, AsF.tuple5 R.handled hr4 nM4_ending nM4_intact nM4_num nM4_append nM4_cont (by simp) (by simp) (by simp) (by simp) (by simp), fun B' => ?_⟩
            have hdrop : rs.drop i = r :: rs.drop (i + 1) := by
              obtain ⟨h1, h2⟩ := List.getElem?_eq_some_iff.mp hri
              rw [List.drop_eq_getElem_cons h1, h2]
            rw [hdrop, List.find?_cons] at hj
            have hmo := (hb' r hmem).1
            refine BlF.ite1 (TsF.val (EvF.endswith (EvF.localT nM4_stem rfl) (EvF.localT nM4_ending rfl))) ?_ ?_
            · intro he
              refine BlF.ite1 (TsF.and (TsF.localB nM4_intact rfl) fun _ => TsF.and1 (TsF.not (TsF.localB nM4_is_intact rfl))) ?_ ?_
              · intro ha
                have hf0 : fits s' (firstVowel s') wh r = false := by unfold fits; rw [he, ha]; rfl
                rw [hf0] at hj
                exact BlF.cont fun g u => ⟨_, _, _, _, _, _, rfl, hj⟩
              · intro ha
                refine BlF.assign (EvF.addI (EvF.subI (EvF.lenT (EvF.bltin (G.up u0b) nM4_len N.len rfl) (EvF.localT nM4_stem rfl) hs') (EvF.localN nM4_num rfl)) (EvF.lenT (EvF.bltin (G.up u0b) nM4_len N.len rfl) (EvF.localT nM4_append rfl) (by omega))) nM4_newlen ?_
                rintro g₁₂ y' u₁₂ ⟨tn, rfl⟩
                refine BlF.ite1 (b := ((firstVowel s' == 0 && decide (((s'.length : Int) - (r.n : Int)) + (r.mo.length : Int) < 2)) || (decide (0 < firstVowel s') && decide (((s'.length : Int) - (r.n : Int)) + (r.mo.length : Int) < 3))))
                  (TsF.or (TsF.and (TsF.eqN (EvF.localN nM4_pfv rfl) (EvF.num 0)) fun _ => TsF.and1 (TsF.ltI (EvF.localI nM4_newlen rfl) EvF.int)) fun _ =>
                    TsF.or1 (TsF.and (TsF.gtN (EvF.localN nM4_pfv rfl) (EvF.num 0)) fun _ => TsF.and1 (TsF.ltI (EvF.localI nM4_newlen rfl) EvF.int))) ?_ ?_
                · intro hn'
                  have hf0 : fits s' (firstVowel s') wh r = false := by unfold fits; rw [he, ha, hn']; rfl
                  rw [hf0] at hj
                  exact BlF.cont fun g u => ⟨_, _, _, _, _, _, rfl, hj⟩
                · intro hn'
                  have hf0 : fits s' (firstVowel s') wh r = true := by unfold fits; rw [he, ha, hn']; rfl
                  rw [hf0] at hj
                  have hj : rs.find? (fits s' (firstVowel s') wh) = some r := hj
                  rw [hj] at hgo
                  have hgo : (if r.on = true then stemGo bk m (cut s' r) false else some (cut s' r)) = some res := hgo
                  refine BlF.assign EvF.bool nM4_is_intact ?_
                  rintro g₁₃ y' u₁₃ rfl
                  have hc0 := hcutl r hmem
                  have hlen3 : (if r.n = 0 then [] else s'.take (s'.length - r.n)).length ≤ s'.length := by
                    split
                    · simp
                    · rw [List.length_take]; omega
                  refine BlF.assign (EvF.addT (EvF.sliceT (EvF.localT nM4_stem rfl) EvP.nil (EvP.val (EvF.subI EvF.int (EvF.localN nM4_num rfl))) hs' (T_cut s' r.n)) (EvF.localT nM4_append rfl) (by omega)) nM4_stem ?_
                  rintro g₁₄ y' u₁₄ ⟨ts', rfl⟩
                  refine BlF.assign (EvF.localB nM4_cont rfl) nM4_continuing ?_
                  rintro g₁₅ y' u₁₅ rfl
                  refine BlF.brk fun g u => ⟨cut s' r, ts', false, r.on, _, _, _, _, _, _, _, _, rfl, fun h => by rw [if_pos h] at hgo; exact hgo, fun h => by
                    rw [h, if_neg Bool.false_ne_true] at hgo
                    cases hgo; rfl, by omega⟩
            · intro he
              have hf0 : fits s' (firstVowel s') wh r = false := by unfold fits; rw [he]; rfl
              rw [hf0] at hj
              exact BlF.nil fun g u => ⟨_, _, _, _, _, _, rfl, hj⟩
          · rintro g₁₁ v u₁₁ ⟨o9, o10, o11, o12, o13, o14, rfl, hj⟩
            rw [← hlen2, List.drop_length] at hj
            have hj : rs.find? (fits s' (firstVowel s') wh) = none := hj
            rw [hj] at hgo
            have hgo : some s' = some res := hgo
            injection hgo with e1
            exact ⟨s', ts, wh, false, _, _, _, _, _, _, _, _, rfl, (fun h => by cases h), fun _ => e1, by omega⟩
        · rintro g₁₀ v u₁₀ h
          exact BlF.nil fun g u => ⟨m, Nat.lt_succ_self m, h⟩
    · rintro rfl g₇ u₇
      rw [hend rfl]
      exact ⟨ts, _, _, _, _, _, _, _, _, _, _, rfl⟩
  · rintro g₆ v u₆ ⟨ts, o5, o6, o7, o8, o9, o10, o11, o12, o13, o14, rfl⟩
    exact BlF.ret (EvF.localT nM4_stem rfl) fun g y u h => h
end
end Mine

end

section
open PySem PySem.W PyProof.Rows PySem.Calls
set_option Elab.async false
set_option linter.unusedVariables false
set_option maxRecDepth 100000
namespace Mine

/-! ## the table of rules is read -/
def turned (r : Rule) : Rule := { r with en := r.en.reverse }
def readLines : List (List Nat) → Option (List Rule)
  | [] => some []
  | l :: r => if (stripT l).isEmpty then readLines r else match readRule (stripT l) with
    | none => none
    | some q => (readLines r).map (turned q :: ·)
def lastOf (l : List Nat) : Nat := l.getD (l.length - 1) 0
def bkOf (rs : List Rule) (c : Nat) : List Rule := rs.filter fun r => lastOf r.en == c

theorem readRule_en {l : List Nat} {q : Rule} (h : readRule l = some q) : 0 < q.en.length ∧ q.en.length ≤ l.length := by
  unfold readRule at h
  dsimp only at h
  have hK := wordRun_le (l := l) (k := 0) (Nat.zero_le _)
  generalize wordRun l 0 = K at h hK
  split at h
  · rename_i c
    simp only [Bool.and_eq_true, decide_eq_true_eq] at c
    split at h
    · cases h
      show 0 < (l.take K).length ∧ (l.take K).length ≤ l.length
      rw [List.length_take]; omega
    · cases h
  · have hP := back_le l (K - 1)
    generalize back l (K - 1) = P at h hP
    split at h
    · rename_i c
      simp only [Bool.and_eq_true, decide_eq_true_eq] at c
      cases h
      show 0 < (l.take P).length ∧ (l.take P).length ≤ l.length
      rw [List.length_take]; omega
    · cases h

section
variable {e : Env} {sc : Scope} {B : Base} {g h h' : Heap} {vals : List (Option Value)}
theorem Fz.hideMany (as : List Addr) (F : Fz e sc B g h vals) (h1 : ∀ a ∈ as, g.get? a = none) (h2 : ∀ a ∈ as, h.get? a ≠ none) : Fz e sc ⟨B.h, as ++ B.hid⟩ g h vals :=
  ⟨F.env, F.ns, F.cell, F.keep, F.vis, F.off, F.goff, fun b m => (List.mem_append.mp m).elim (h1 b) (F.hoff b), fun b m => (List.mem_append.mp m).elim (h2 b) (F.hin b), F.min, F.nd⟩
theorem Fz.showMany {as : List Addr} (F : Fz e sc ⟨B.h, as ++ B.hid⟩ g h vals) : Fz e sc B g h vals ∧ ∀ a ∈ as, g.get? a = none :=
  ⟨⟨F.env, F.ns, F.cell, F.keep, F.vis, F.off, F.goff, fun b m => F.hoff b (List.mem_append_right _ m), fun b m => F.hin b (List.mem_append_right _ m), F.min, F.nd⟩, fun a m => F.hoff a (List.mem_append_left _ m)⟩
end

/-- the dict of rules while it is filled -/
structure RS0 (w : World) (e : Env) (B : Base) (I d : Addr) (g h : Heap) (rs : List Rule) (cas : List (Nat × Addr)) : Prop where
  dict : h.DictOf (PySem.strKind pw w) d (cas.map fun p => (T [p.1], Value.ref p.2))
  nd : (cas.map (·.2)).Nodup
  lst : ∀ p ∈ cas, ∃ vs : List Value, PlainL h p.2 vs.toArray ∧ All2 (fun r v => IsRule g v r) (bkOf rs p.1) vs
  off : ∀ p ∈ cas, p.2 ≠ d ∧ p.2 ≠ I ∧ p.2 ∉ mutOf e ∧ p.2 ∉ B.hid ∧ B.h.get? p.2 = none ∧ g.get? p.2 = none
structure RSt (w : World) (e : Env) (B : Base) (I d : Addr) (g h : Heap) (rs : List Rule) (cas : List (Nat × Addr)) : Prop extends RS0 w e B I d g h rs cas where
  has : ∀ c, bkOf rs c = [] ↔ c ∉ cas.map (·.1)
  len : cas.length ≤ rs.length

theorem plainL_at {h h' : Heap} {a : Addr} {its} (x : PlainL h a its) (k : ∀ o, h.get? a = some o → h'.get? a = some o) : PlainL h' a its := let ⟨o, n, y, r⟩ := x; ⟨o, n, k o y, r⟩
theorem plainL_in {h : Heap} {a : Addr} {its} (x : PlainL h a its) : h.get? a ≠ none := let ⟨o, n, y, r⟩ := x; fun z => by rw [y] at z; cases z
theorem dictOf_at {w : World} {h h' : Heap} {a : Addr} {kvs} (x : h.DictOf (PySem.strKind pw w) a kvs) (k : ∀ o, h.get? a = some o → h'.get? a = some o) : h'.DictOf (PySem.strKind pw w) a kvs := let ⟨o, es, ep, y, r⟩ := x; ⟨o, es, ep, k o y, r⟩
theorem dictOf_in {w : World} {h : Heap} {a : Addr} {kvs} (x : h.DictOf (PySem.strKind pw w) a kvs) : h.get? a ≠ none := let ⟨o, es, ep, y, r⟩ := x; fun z => by rw [y] at z; cases z

theorem RS0.move {w : World} {e : Env} {B : Base} {I d : Addr} {g g' h h' : Heap} {rs cas} (R : RS0 w e B I d g h rs cas) (kd : ∀ o, h.get? d = some o → h'.get? d = some o) (ka : ∀ p ∈ cas, ∀ o, h.get? p.2 = some o → h'.get? p.2 = some o)
    (u : Up g g') (n : ∀ p ∈ cas, g'.get? p.2 = none) : RS0 w e B I d g' h' rs cas :=
  ⟨dictOf_at R.dict kd, R.nd, fun p hp => let ⟨vs, a, b⟩ := R.lst p hp; ⟨vs, plainL_at a (ka p hp), b.imp fun _ _ x => x.up u⟩,
    fun p hp => let ⟨a, b, c, d, f, _⟩ := R.off p hp; ⟨a, b, c, d, f, n p hp⟩⟩
theorem RSt.move {w : World} {e : Env} {B : Base} {I d : Addr} {g g' h h' : Heap} {rs cas} (R : RSt w e B I d g h rs cas) (kd : ∀ o, h.get? d = some o → h'.get? d = some o) (ka : ∀ p ∈ cas, ∀ o, h.get? p.2 = some o → h'.get? p.2 = some o)
    (u : Up g g') (n : ∀ p ∈ cas, g'.get? p.2 = none) : RSt w e B I d g' h' rs cas := ⟨R.toRS0.move kd ka u n, R.has, R.len⟩
/-- the lists and the dict are hidden, and kept -/
theorem RS0.shut {w : World} {e : Env} {B : Base} {I d : Addr} {g h : Heap} {rs cas} {sc : Scope} {vals : List (Option Value)} (S : RS0 w e B I d g h rs cas) (hdm : d ∉ mutOf e) (F : Fz e sc B g h vals) :
    ∃ B2 : Base, Fz e sc B2 g h vals ∧ B2.h.DictOf (PySem.strKind pw w) d (cas.map fun p => (T [p.1], Value.ref p.2)) ∧ (∀ q ∈ cas, ∀ o, h.get? q.2 = some o → B2.h.get? q.2 = some o) ∧
      ∀ g' h' v, Up g g' → Fz e sc B2 g' h' v → Fz e sc B g' h' v ∧ RS0 w e B I d g' h' rs cas := by
  have F1 := F.hideMany (cas.map (·.2)) (fun a m => by obtain ⟨q, hq, rfl⟩ := List.mem_map.mp m; exact (S.off q hq).2.2.2.2.2) (fun a m => by obtain ⟨q, hq, rfl⟩ := List.mem_map.mp m; obtain ⟨vs, h1, _⟩ := S.lst q hq; exact plainL_in h1)
  obtain ⟨B2, e1, e2, F2, hall, hno⟩ := F1.rebase (d :: cas.map (·.2)) (fun b m => by
    rcases List.mem_cons.mp m with rfl | m
    · exact hdm
    · obtain ⟨q, hq, rfl⟩ := List.mem_map.mp m; exact (S.off q hq).2.2.1)
  refine ⟨B2, F2, dictOf_at S.dict (hall d (.head _)), fun q hq o z => hall q.2 (.tail _ (List.mem_map.mpr ⟨q, hq, rfl⟩)) o z, fun g' h' v u F' => ?_⟩
  obtain ⟨F3, n3⟩ := (F'.base e2 e1).showMany
  exact ⟨F3, S.move (fun o z => F'.keep _ _ (hall d (.head _) o z)) (fun q hq o z => F'.keep _ _ (hall q.2 (.tail _ (List.mem_map.mpr ⟨q, hq, rfl⟩)) o z)) u fun q hq => n3 q.2 (List.mem_map.mpr ⟨q, hq, rfl⟩)⟩
def forBody : Stmt → List Stmt
  | .For _ _ b _ _ => b
  | _ => []
def rrBody : List Stmt := forBody (((bodyOf (mth 1))[1]?).getD (.Pass default))

theorem bkOf_snoc (rs : List Rule) (r : Rule) (c : Nat) : bkOf (rs ++ [r]) c = bkOf rs c ++ (if lastOf r.en == c then [r] else []) := by
  unfold bkOf
  rw [List.filter_append, List.filter_cons, List.filter_nil]

section
variable {w : World} {A : Around} {s : Shared} {e : Env} {B : Base} {g : Heap} {cf : Cfg}

theorem EvF.dictItem {sc : Scope} {vals : List (Option Value)} {pos : Pos} {v i : Expr} {d : Addr} {kvs : List (Str × Value)} {k : Str} {x : Value} (hv : EvF w A e sc B vals g v (fun _ y => y = .ref d)) (hi : EvF w A e sc B vals g i (VS k))
    (hm : B.h.DictOf (PySem.strKind pw w) d kvs) (hk : valueAt kvs k = some x)
    (hs : ∀ t, subscripted i false (.ref d) (.str k t) = operate [.ref d, .str k t] (getItem (.ref d) (.str k t)) := by intro _; with_unfolding_all rfl)
    (ht : ∀ r, letTemporaryGo v (.ref d) r = pure () := by intro _; with_unfolding_all rfl) : EvF w A e sc B vals g (.Subscript v i pos) (fun _ y => y = x) :=
  EvF.sub hv Mono.eq hi fun g' _ _ _ e1 ⟨t, e2⟩ s Q E FF h => by
    subst e1 e2
    have hm' := dictOf_at hm fun o => FF.keep _ o
    exact tail_of_ItemOn ⟨"dict", _, slot_dict_getitem.lookup, hm'.typeIs, wpAny_getItem_of (strKind_is pw w k t) hm'.mapOf hk (h _ g' s.heap _ Up.rfl' Up.rfl' FF rfl)⟩ (hs _) ht
theorem TsF.notInD {sc : Scope} {vals : List (Option Value)} {pos : Pos} {l r : Expr} {d : Addr} {kvs : List (Str × Value)} {k : Str} (hl : EvF w A e sc B vals g l (VS k)) (hr : EvF w A e sc B vals g r (fun _ y => y = .ref d)) (hd : (d == sysModules) = false)
    (hm : B.h.DictOf (PySem.strKind pw w) d kvs) (hb : behindInMarks .NotIn r = false := by with_unfolding_all rfl) : TsF w A e sc B vals g (.Compare l [.NotIn] [r] pos) (!(valueAt kvs k).isSome) :=
  TsF.cmp hl Mono.vs hr (fun g' v u _ ⟨t, e1⟩ e2 s Q E FF h => by
    subst e1 e2
    exact wpAny_notIn_of (strKind_is pw w k t) hd (dictOf_at hm fun o => FF.keep _ o).mapOf (h _)) hb

theorem valueAt_cas : ∀ (cas : List (Nat × Addr)) (c : Nat), valueAt (cas.map fun p => (T [p.1], Value.ref p.2)) (T [c]) = ((cas.find? fun p => p.1 == c).map fun p => Value.ref p.2)
  | [], _ => rfl
  | (a, b) :: r, c => by
    unfold valueAt
    rw [List.map_cons, List.find?_cons, List.find?_cons]
    by_cases h : a = c
    · subst h; simp
    · have h1 : T [a] ≠ T [c] := fun z => h (by have := T_inj z; injection this)
      have e1 : decide (T [a] = T [c]) = false := decide_eq_false h1
      have e2 : (a == c) = false := beq_eq_false_iff_ne.mpr h
      rw [e1, e2]
      exact valueAt_cas r c

def thenOf : Stmt → List Stmt
  | .If _ b _ _ => b
  | _ => []
def rrApp : List Stmt := (thenOf ((rrBody[3]?).getD (.Pass default))).drop 4

theorem cas_find {cas : List (Nat × Addr)} (h : (cas.map (·.1)).Nodup) {c : Nat} {a : Addr} (m : (c, a) ∈ cas) : cas.find? (fun p => p.1 == c) = some (c, a) := by
  induction cas with
  | nil => cases m
  | cons p r ih =>
    rw [List.map_cons, List.nodup_cons] at h
    rw [List.find?_cons]
    rcases List.mem_cons.mp m with e1 | hm
    · subst e1; simp
    · have : (p.1 == c) = false := beq_eq_false_iff_ne.mpr fun z => h.1 (List.mem_map.mpr ⟨_, hm, z.symm⟩)
      rw [this]; exact ih h.2 hm
theorem cas_key {cas : List (Nat × Addr)} (h : (cas.map (·.1)).Nodup) {c : Nat} {a b : Addr} (m : (c, a) ∈ cas) (n : (c, b) ∈ cas) : a = b := by
  have h1 := cas_find h m
  rw [cas_find h n] at h1
  injection h1 with h1; injection h1 with _ h2; exact h2.symm
theorem cas_val {cas : List (Nat × Addr)} (h : (cas.map (·.2)).Nodup) {c d : Nat} {a : Addr} (m : (c, a) ∈ cas) (n : (d, a) ∈ cas) : c = d := by
  induction cas with
  | nil => cases m
  | cons p r ih =>
    rw [List.map_cons, List.nodup_cons] at h
    rcases List.mem_cons.mp m with x | m <;> rcases List.mem_cons.mp n with y | n
    · rw [← x] at y; injection y with y _; exact y.symm
    · exact absurd (List.mem_map.mpr ⟨_, n, by rw [← x]⟩) h.1
    · exact absurd (List.mem_map.mpr ⟨_, m, by rw [← y]⟩) h.1
    · exact ih h.2 m n
theorem not_interactive {e : Env} {sc : Scope} (E : EnvIs e sc) : interactive e = false := by
  unfold interactive
  rw [E.scope, E.kind]; rfl

/-- the last row of a turn: the rule goes behind the others of its sign -/
theorem rr_append {Q : Flow → Shared → Prop} {E : Value → Shared → Prop} {x I d a : Addr} {c : Nat} {rs : List Rule} {cas : List (Nat × Addr)} {tb : Value} {q : Rule} {o3 o4 : Option Value} {t5 t7 t8 t10 : Tok} (R : Room A 2) (hdm : d ∉ mutOf e)
    (hlen : rs.length ≤ 100000) (hc : lastOf q.en = c) (hmem : (c, a) ∈ cas) (hkn : (cas.map (·.1)).Nodup)
    (F : Fz e (scopeOf (mth 1)) B g s.heap [some (.ref x), some tb, some (.ref d), o3, o4, some (.str (T q.en) t5), some (.bool q.al), some (.int (q.n : Int) t7), some (.str (T q.mo) t8), some (.bool q.on), some (.str (T [c]) t10)])
    (S : RS0 w e B I d g s.heap rs cas)
    (hQ : ∀ g' h' tk, Up g g' → Fz e (scopeOf (mth 1)) B g' h' [some (.ref x), some tb, some (.ref d), o3, o4, some (.str (T q.en) t5), some (.bool q.al), some (.int (q.n : Int) t7), some (.str (T q.mo) t8), some (.bool q.on), some (.str (T [c]) t10)] →
      RS0 w e B I d g' h' (rs ++ [q]) cas → Q .next { s with heap := h', toks := tk }) : wpAny (model pw w) A (execs rrApp e) Q E s := by
  obtain ⟨B2, F2, hD2, hL2, back⟩ := S.shut hdm F
  have hva : valueAt (cas.map fun p => (T [p.1], Value.ref p.2)) (T [c]) = some (.ref a) := by
    rw [valueAt_cas]
    have := cas_find hkn hmem
    rw [this]; rfl
  obtain ⟨vs, hpl, hal⟩ := S.lst _ hmem
  obtain ⟨a1, a2, a3, a4, a5, a6⟩ := S.off _ hmem
  have hlen2 : (bkOf rs c).length = vs.length := All2.len hal
  have hbk : (bkOf rs c).length ≤ rs.length := List.length_filter_le _ _
  conv in rrApp => whnf
  refine wpAny_execs_cons (wpAny_Expr_any (hi := not_interactive F.env) ?_)
  refine MethodCall_ ((EvF.dictItem (EvF.local nM1_rules rfl) (EvF.localT nM1_lastchar rfl) hD2 hva).run s g _ E Up.rfl' F2 fun v g1 h1 tk1 u1 ug1 F3 e1 => ?_)
  subst e1
  have hp1 : PlainL h1 a vs.toArray := plainL_at hpl fun o z => F3.keep _ _ (hL2 _ hmem o z)
  obtain ⟨o, n, ho, h2, h3, h4⟩ := id hp1
  refine getMethod_list_append (s := { s with heap := h1, toks := tk1 }) ho h2 h3 ?_
  refine Calls.callWith_builtin rfl (evalArgs_any rfl ((EvL.one (EvF.rule5 (r := q) (EvF.localT nM1_ending rfl) (EvF.localB nM1_intact rfl) (EvF.localN nM1_num rfl) (EvF.localT nM1_append rfl) (EvF.localB nM1_cont rfl)) (fun _ _ _ u z => z.up u)).run { s with heap := h1, toks := tk1 } g1 _ E Up.rfl' F3 fun vs2 g2 h5 tk2 u2 ug2 F4 hv2 => ?_))
  obtain ⟨tv, rfl, htv⟩ := hv2
  have hp2 : PlainL h5 a vs.toArray := plainL_at hp1 fun o z => u2 _ _ z
  show wpAny _ _ (call (.builtin "list.append") [.ref a, tv] []) _ _ _
  refine list_append_plainL (s := { s with heap := h5, toks := tk2 }) hp2 (fun h6 hp6 hs6 => ?_) (by rw [List.size_toArray, sizeLine_eq]; omega)
  obtain ⟨F5, S5⟩ := back g2 h5 _ (ug1.tr ug2) F4
  obtain ⟨b1, b2, b3, b4, b5, b6⟩ := S5.off _ hmem
  have F6 := F5.but b3 (.inl b4) b5 b6 fun b o hb z => (hs6.2 b hb).trans z
  refine wpAny_execs_nil (hQ g2 h6 tk2 (ug1.tr ug2) F6 ⟨dictOf_at S5.dict fun o z => (hs6.2 d (Ne.symm b1)).trans z, S5.nd, fun p hp => ?_, fun p hp => S5.off p hp⟩)
  obtain ⟨vs', h7, h8⟩ := S5.lst p hp
  rw [bkOf_snoc, hc]
  by_cases hpc : p.1 = c
  · have hpa : p = (c, a) := by
      obtain ⟨p1, p2⟩ := p
      have hpc : p1 = c := hpc
      subst hpc
      rw [cas_key hkn hp hmem]
    subst hpa
    have e2 : (c == (c, a).1) = true := beq_self_eq_true c
    rw [e2, if_pos rfl]
    refine ⟨vs ++ [tv], by simpa using hp6, All2.snoc (hal.imp fun _ _ z => z.up (ug1.tr ug2)) htv⟩
  · have e2 : (c == p.1) = false := beq_eq_false_iff_ne.mpr (Ne.symm hpc)
    rw [e2, if_neg Bool.false_ne_true, List.append_nil]
    refine ⟨vs', plainL_at h7 fun o z => (hs6.2 p.2 ?_).trans z, h8⟩
    intro z
    obtain ⟨p1, p2⟩ := p
    have z : p2 = a := z
    subst z
    exact hpc (cas_val S5.nd hp hmem)

theorem rr_turn {Q : Flow → Shared → Prop} {E : Value → Shared → Prop} {x I d : Addr} {rs : List Rule} {cas : List (Nat × Addr)} {tb : Value} {ln : List Nat} {tl : Tok} {o4 o5 o6 o7 o8 o9 o10 : Option Value} (N : GN cf) (R : Room A 2) (p : TopA cf g)
    (hdm : d ∉ mutOf e) (hdh : d ∈ B.hid) (hBd : B.h.get? d = none) (hd : (d == sysModules) = false) (hIh : I ∈ B.hid) (hln : ln.length ≤ 640) (hlen : rs.length ≤ 100000)
    (F : Fz e (scopeOf (mth 1)) B g s.heap [some (.ref x), some tb, some (.ref d), some (.str (T ln) tl), o4, o5, o6, o7, o8, o9, o10]) (S : RSt w e B I d g s.heap rs cas)
    (hnext : ∀ f g' h' tk cas' o3 o4 o5 o6 o7 o8 o9 o10, (f = .next ∨ f = .cont) → Up g g' → Fz e (scopeOf (mth 1)) B g' h' [some (.ref x), some tb, some (.ref d), o3, o4, o5, o6, o7, o8, o9, o10] →
      (((stripT ln).isEmpty = true ∧ RSt w e B I d g' h' rs cas') ∨ ((stripT ln).isEmpty = false ∧ ∃ q, readRule (stripT ln) = some q ∧ RSt w e B I d g' h' (rs ++ [turned q]) cas')) → Q f { s with heap := h', toks := tk })
    (hbad : (stripT ln).isEmpty = false → readRule (stripT ln) = none → ∀ g' h' tk v', Up g g' → Fz e (scopeOf (mth 1)) B g' h' v' → ∀ h'' ex vs, Heap.MadeExc h' h'' ex "Exception" vs → E (.ref ex) { s with heap := h'', toks := tk }) :
    wpAny (model pw w) A (execs rrBody e) Q E s := by
  have hs : ln.length ≤ sizeLine := by rw [sizeLine_eq]; omega
  have hsl : (stripT ln).length ≤ ln.length := by
    have h := PyProof.Rows.fact_strip (T ln)
    rw [T_len] at h
    exact h
  have hss : (stripT ln).length ≤ sizeLine := Nat.le_trans hsl hs
  obtain ⟨B2, F2, hD2, _, back0⟩ := S.toRS0.shut hdm F
  have back : ∀ g' h' v, Up g g' → Fz e (scopeOf (mth 1)) B2 g' h' v → Fz e (scopeOf (mth 1)) B g' h' v ∧ RSt w e B I d g' h' rs cas := fun g' h' v u F' => ⟨(back0 g' h' v u F').1, (back0 g' h' v u F').2, S.has, S.len⟩
  have G := p.gd
  conv in rrBody => whnf
  refine wpAny_execs_cons ((StF.assign (EvF.strip0 (EvF.localT nM1_line rfl) hs) nM1_line (by simp)).run s g _ E Up.rfl' F2 fun f g1 h1 tk1 v ug1 F3 hv => ?_)
  obtain ⟨rfl, y, ⟨t1, rfl⟩, rfl⟩ := hv
  refine wpAny_execs_cons (wpAny_If ((TsF.not (TsF.tru (EvF.localT nM1_line rfl) fun _ _ _ ⟨_, e3⟩ => by subst e3; exact Tru.text hss)).run { s with heap := h1, toks := tk1 } g1 _ E Up.rfl' F3 fun g2 h2 tk2 u2 ug2 F4 => ?_))
  have ug02 := ug1.tr ug2
  cases hem : (stripT ln).isEmpty with
  | true =>
    simp only [hem, Bool.not_true, Bool.not_false, if_true]
    obtain ⟨F5, S5⟩ := back g2 h2 _ ug02 F4
    exact wpAny_execs_cons (wpAny_Continue (hnext .cont g2 h2 tk2 cas _ _ _ _ _ _ _ _ (.inr rfl) ug02 F5 (.inl ⟨hem, S5⟩)))
  | false =>
  simp only [hem, Bool.not_true, Bool.not_false, Bool.false_eq_true, if_false]
  refine wpAny_execs_nil ?_
  have hs640 : (stripT ln).length ≤ 640 := Nat.le_trans hsl hln
  refine wpAny_execs_cons ((StF.assign (EvF.callD (EvF.glob (p.up ug02).gd nM1__read_rule N.rr) (p.up ug02).f3 (EvL.one (EvF.localT nM1_line rfl) Mono.vs) R (W := fun g v => IsRuleO g v (readRule (stripT ln))) fun g' vs u ⟨v, e3, t3, e4⟩ => ⟨TopA cf, p.up (ug02.tr u), by
    subst e3 e4; exact c_read_rule N (stripT ln) t3 hs640⟩) nM1_match (by simp [setAt])).run { s with heap := h2, toks := tk2 } g2 _ E Up.rfl' F4 fun f g3 h3 tk3 v ug3 F5 hv => ?_)
  obtain ⟨rfl, y, hy, rfl⟩ := hv
  have ug03 := ug02.tr ug3
  cases hrd : readRule (stripT ln) with
  | none =>
    rw [hrd] at hy
    have hy : y = .none := hy
    subst hy
    refine wpAny_execs_cons (wpAny_If ((TsF.tru (b := false) (EvF.local nM1_match rfl) fun _ _ _ e3 => by subst e3; exact Tru.none).run { s with heap := h3, toks := tk3 } g3 _ E Up.rfl' F5 fun g4 h4 tk4 u4 ug4 F6 => ?_))
    simp only [Bool.false_eq_true, if_false]
    refine wpAny_execs_cons (Raise_madeB PySem.F.excCall_Exception PySem.F.excRaise_Exception R.handled ((EvF.bltin (v := .type "Exception") (p.up (ug03.tr ug4)).gd nM1_Exception N.exc rfl).run { s with heap := h4, toks := tk4 } g4 _ _ Up.rfl' F6 fun v g5 h5 tk5 u5 ug5 F7 e3 => ⟨e3, ?_⟩))
    refine (EvL.one (EvF.str (x := "Bad rule")) Mono.vs).run { s with heap := h5, toks := tk5 } g5 _ E Up.rfl' F7 fun vs g6 h6 tk6 u6 ug6 F8 ⟨v, e4, _⟩ => ⟨by rw [e4, sizeLine_eq]; simp, fun h7 ex mk => ?_⟩
    exact hbad hem hrd g6 h6 tk6 _ (ug03.tr (ug4.tr (ug5.tr ug6))) (back g6 h6 _ (ug03.tr (ug4.tr (ug5.tr ug6))) F8).1 h7 ex vs mk
  | some q =>
  rw [hrd] at hy
  have hy : IsRule g3 y q := hy
  obtain ⟨w1, w2, w3, ht⟩ := hy
  refine wpAny_execs_cons (wpAny_If ((TsF.tru (b := true) (EvF.local nM1_match rfl) fun _ _ u e3 => by subst e3; exact Tru.tuple (ht.up u) (by rw [sizeLine_eq]; simp)).run { s with heap := h3, toks := tk3 } g3 _ E Up.rfl' F5 fun g4 h4 tk4 u4 ug4 F6 => ?_))
  simp only [if_true]
  have ug04 := ug03.tr ug4
  refine wpAny_execs_cons (Assign_Tuple ((EvF.local nM1_match rfl).run { s with heap := h4, toks := tk4 } g4 _ E Up.rfl' F6 fun v g5 h5 tk5 u5 ug5 F7 e3 => ?_))
  subst e3
  refine (AsF.tuple5 R.handled (ht.up (ug4.tr ug5)) nM1_ending nM1_intact nM1_num nM1_append nM1_cont (by simp [setAt]) (by simp [setAt]) (by simp [setAt]) (by simp [setAt]) (by simp [setAt])).run _ { s with heap := h5, toks := tk5 } g5 _ E Up.rfl' F7 fun h6 tk6 F8 => ?_
  have ug05 := ug04.tr ug5
  obtain ⟨q1, q2⟩ := readRule_en hrd
  refine wpAny_execs_cons ((StF.assign (EvF.revT (EvF.localT nM1_ending rfl) (EvF.neg EvF.int) (by omega)) nM1_ending (by simp [setAt])).run { s with heap := h6, toks := tk6 } g5 _ E Up.rfl' F8 fun f g6 h7 tk7 v ug6 F9 hv => ?_)
  obtain ⟨rfl, y, ⟨t6, rfl⟩, rfl⟩ := hv
  refine wpAny_execs_cons ((StF.assign (EvF.lastT (EvF.localT nM1_ending rfl) (EvF.neg EvF.int) (by rw [List.length_reverse]; omega) (by rw [List.length_reverse]; omega)) nM1_lastchar (by simp [setAt])).run { s with heap := h7, toks := tk7 } g6 _ E Up.rfl' F9 fun f g7 h8 tk8 v ug7 F10 hv => ?_)
  obtain ⟨rfl, y, ⟨t7, rfl⟩, rfl⟩ := hv
  have ug07 := ug05.tr (ug6.tr ug7)
  generalize hc : q.en.reverse.getD (q.en.reverse.length - 1) 0 = c at F10
  refine wpAny_execs_cons (wpAny_If ((TsF.notInD (EvF.localT nM1_lastchar rfl) (EvF.local nM1_rules rfl) hd hD2).run { s with heap := h8, toks := tk8 } g7 _ E Up.rfl' F10 fun g8 h9 tk9 u9 ug8 F11 => ?_))
  have ug08 := ug07.tr ug8
  obtain ⟨F12, S12⟩ := back g8 h9 _ ug08 F11
  have hnd : (cas.map (·.1)).Nodup := by
    obtain ⟨_, _, _, _, _, _, _, _, hn⟩ := S.dict
    rw [List.map_map] at hn
    have : (cas.map (·.1)).map (fun c => T [c]) = cas.map ((fun x : Str × Value => x.1) ∘ fun p => (T [p.1], Value.ref p.2)) := by rw [List.map_map]; rfl
    rw [← this] at hn
    exact hn.of_map _ fun x y h hxy => h (by rw [hxy])
  have hlc : lastOf (turned q).en = c := hc
  have fin : ∀ g' h' tk' cas' (o3 o4 : Option Value), Up g g' → (cas'.map (·.1)).Nodup → (∀ c', c' ≠ c → (bkOf rs c' = [] ↔ c' ∉ cas'.map (·.1))) → c ∈ cas'.map (·.1) → cas'.length ≤ rs.length + 1 → RS0 w e B I d g' h' rs cas' →
      Fz e (scopeOf (mth 1)) B g' h' [some (.ref x), some tb, some (.ref d), o3, o4, some (.str (T q.en.reverse) t6), some (.bool q.al), some (.int (q.n : Int) w2), some (.str (T q.mo) w3), some (.bool q.on), some (.str (T [c]) t7)] →
      wpAny (model pw w) A (execs rrApp e) (fun f s' => match f with | .next => wpAny (model pw w) A (execs [] e) Q E s' | f => Q f s') E { s with heap := h', toks := tk' } := fun g' h' tk' cas' o3 o4 u hn hh hcm hl S' F' => by
    obtain ⟨⟨c', a⟩, hm, hce⟩ := List.mem_map.mp hcm
    have hce : c' = c := hce
    subst hce
    refine rr_append (s := { s with heap := h', toks := tk' }) (q := turned q) R hdm hlen hlc hm hn F' S' fun g2 h2 tk2 u2 F2 S2 => ?_
    refine wpAny_execs_nil (hnext .next g2 h2 tk2 cas' _ _ _ _ _ _ _ _ (.inl rfl) (u.tr u2) F2 (.inr ⟨hem, q, hrd, S2, fun c2 => ?_, by rw [List.length_append]; exact hl⟩))
    rw [bkOf_snoc, hlc]
    by_cases z : c2 = c'
    · subst z
      rw [beq_self_eq_true, if_pos rfl]
      exact ⟨fun h => absurd h (by simp), fun h => absurd hcm h⟩
    · rw [beq_eq_false_iff_ne.mpr (Ne.symm z), if_neg Bool.false_ne_true, List.append_nil]
      exact hh c2 z
  by_cases hm : c ∈ cas.map (·.1)
  · have hv1 : (!(valueAt (cas.map fun p => (T [p.1], Value.ref p.2)) (T [c])).isSome) = false := by
      obtain ⟨⟨c', a⟩, hm', hce⟩ := List.mem_map.mp hm
      have hce : c' = c := hce
      subst hce
      rw [valueAt_cas, cas_find hnd hm']; rfl
    rw [hv1]
    simp only [Bool.false_eq_true, if_false]
    exact wpAny_execs_nil (fin g8 h9 tk9 cas _ _ ug08 hnd (fun c' _ => S.has c') hm (Nat.le_succ_of_le S.len) S12.toRS0 F12)
  · have hv1 : valueAt (cas.map fun p => (T [p.1], Value.ref p.2)) (T [c]) = none := by
      rw [valueAt_cas]
      have : cas.find? (fun p => p.1 == c) = none := by
        rw [List.find?_eq_none]
        intro q hq z
        exact hm (List.mem_map.mpr ⟨q, hq, by simpa using z⟩)
      rw [this]; rfl
    rw [hv1]
    simp only [Option.isSome_none, Bool.not_false, if_true]
    refine wpAny_execs_cons (wpAny_Assign_Subscript (wpAny_List (EvL.nil.run { s with heap := h9, toks := tk9 } g8 _ E Up.rfl' F11 fun vs g9 h10 tk10 u10 ug9 F13 e5 => ⟨by rw [e5, sizeLine_eq]; simp, ?_⟩)))
    subst e5
    obtain ⟨n1, n2⟩ := F13.fresh (b := h10.objs.size) (Nat.le_refl _)
    have hDo : (h10.push { cls := .type "list", data := .seq ([] : List Value).toArray }).get? h10.objs.size = some { cls := .type "list", data := .seq ([] : List Value).toArray } := Heap.get?_push_size _ rfl
    have n3 : g9.get? h10.objs.size = none := F13.vis.none (Heap.get?_none_of_le (Nat.le_refl _))
    have n4 : ∀ b, h10.get? b ≠ none → b ≠ h10.objs.size := fun b hb z => by rw [z, Heap.get?_none_of_le (Nat.le_refl _)] at hb; exact hb rfl
    have n5 : B2.h.get? h10.objs.size = none := F13.keep.none (Heap.get?_none_of_le (Nat.le_refl _))
    obtain ⟨F13b, S13b⟩ := back g9 h10 _ (ug08.tr ug9) F13
    have n6 : h10.objs.size ∉ B.hid := (F13b.fresh (Nat.le_refl _)).2
    have n7 : B.h.get? h10.objs.size = none := F13b.keep.none (Heap.get?_none_of_le (Nat.le_refl _))
    have F14 := (F13.push { cls := .type "list", data := .seq ([] : List Value).toArray }).addHid n3 (by rw [hDo]; intro z; cases z)
    refine (EvF.local nM1_rules rfl).run { s with heap := h10.push { cls := .type "list", data := .seq ([] : List Value).toArray }, toks := tk10 } g9 _ E Up.rfl' F14 fun v1 g10 h11 tk11 u11 ug10 F15 e6 => ?_
    subst e6
    refine (EvF.localT nM1_lastchar rfl).run { s with heap := h11, toks := tk11 } g10 _ E Up.rfl' F15 fun v2 g11 h12 tk12 u12 ug11 F16 ⟨t12, e7⟩ => ?_
    subst e7
    obtain ⟨F17, n8⟩ := F16.delHid
    have ug0b := ug08.tr (ug9.tr (ug10.tr ug11))
    obtain ⟨F18, S18⟩ := back g11 h12 _ ug0b F17
    have hDn : h12.get? h10.objs.size = some { cls := .type "list", data := .seq ([] : List Value).toArray } := u12 _ _ (u11 _ _ hDo)
    refine wpAny_setItem_pairs (s := { s with heap := h12, toks := tk12 }) (strKind_is pw w (T [c]) t12) S18.dict (fun h13 hD13 hs13 => ?_) (by rw [List.length_map, sizeLine_eq]; have := S.len; omega)
    have hdp : h12.get? d ≠ none := dictOf_in S18.dict
    have hdD : h10.objs.size ≠ d := fun z => n6 (z ▸ hdh)
    have F19 := F18.but hdm (.inr (dictOf_in hD13)) hBd (F18.hoff d hdh) fun b o hb z => (hs13.2 b hb).trans z
    have hI10 : h10.get? I ≠ none := F13b.hin I hIh
    refine wpAny_execs_nil (fin g11 h13 _ (cas ++ [(c, h10.objs.size)]) _ _ ug0b ?_ ?_ (by simp) (by rw [List.length_append]; have := S.len; simp; omega) ⟨?_, ?_, ?_, ?_⟩ F19)
    · rw [List.map_append, List.nodup_append]
      refine ⟨hnd, by simp, fun a ha b hb => ?_⟩
      simp at hb
      subst hb
      exact fun z => hm (z ▸ ha)
    · intro c' hc'
      rw [S.has c', List.map_append, List.mem_append]
      simp [hc']
    · have : stored (cas.map fun p => (T [p.1], Value.ref p.2)) (T [c]) (.ref h10.objs.size) = ((cas ++ [(c, h10.objs.size)]).map fun p => (T [p.1], Value.ref p.2)) := by
        unfold stored
        have hno : ((cas.map fun p => (T [p.1], Value.ref p.2)).any fun kv => decide (kv.1 = T [c])) = false := by
          rw [List.any_eq_false]
          intro kv hkv
          obtain ⟨q', hq', rfl⟩ := List.mem_map.mp hkv
          intro z
          have z : T [q'.1] = T [c] := by simpa using z
          have := T_inj z
          injection this with z'
          exact hm (List.mem_map.mpr ⟨q', hq', z'⟩)
        rw [hno, if_neg Bool.false_ne_true, List.map_append]; rfl
      rw [← this]; exact hD13
    · rw [List.map_append, List.nodup_append]
      refine ⟨S.nd, by simp, fun a ha b hb => ?_⟩
      simp at hb
      subst hb
      obtain ⟨q', hq', rfl⟩ := List.mem_map.mp ha
      obtain ⟨vs', h14, _⟩ := S13b.lst q' hq'
      exact n4 _ (plainL_in h14)
    · intro q' hq'
      rcases List.mem_append.mp hq' with hq' | hq'
      · obtain ⟨vs', h14, h15⟩ := S18.lst q' hq'
        exact ⟨vs', plainL_at h14 fun o z => (hs13.2 _ (S18.off q' hq').1).trans z, h15⟩
      · rw [List.mem_singleton] at hq'
        subst hq'
        refine ⟨[], ⟨_, _, (hs13.2 _ hdD).trans hDn, rfl, rfl, rfl⟩, ?_⟩
        rw [(S.has c).mpr hm]; exact .nil
    · intro q' hq'
      rcases List.mem_append.mp hq' with hq' | hq'
      · exact S18.off q' hq'
      · rw [List.mem_singleton] at hq'
        subst hq'
        exact ⟨hdD, Ne.symm (n4 I hI10), n1, n6, n7, n8⟩

theorem readLines_drop {lines : List (List Nat)} {i : Nat} {ln : List Nat} (h : lines[i]? = some ln) : readLines (lines.drop i) = if (stripT ln).isEmpty then readLines (lines.drop (i + 1)) else match readRule (stripT ln) with
    | none => none
    | some q => (readLines (lines.drop (i + 1))).map (turned q :: ·) := by
  obtain ⟨h1, h2⟩ := List.getElem?_eq_some_iff.mp h
  rw [List.drop_eq_getElem_cons h1, h2]; rfl

theorem c_read_rules {R : Result → Shared → Prop} (N : GN cf) (RA : Room A 3) (hB : Up B.h s.heap) (ug : Up g s.heap) (hh : ∀ b ∈ B.hid, g.get? b = none) (hhi : ∀ b ∈ B.hid, s.heap.get? b ≠ none) (p : TopA cf g) {x d : Addr} {tbl : List Nat} {t : Tok}
    (hin : ∃ dx es n, g.get? x = some (instObj cf.C dx) ∧ g.get? dx = some (dictOf es n) ∧ getL "rules" es = some (some (.ref d))) (hdh : d ∈ B.hid) (hBd : B.h.get? d = none) (hd : (d == sysModules) = false) (hD : s.heap.DictOf (PySem.strKind pw w) d [])
    (hl : tbl.length ≤ 50000) (hlines : ∀ ln ∈ splitT tbl 10, ln.length ≤ 640)
    (hok : ∀ rs, readLines (splitT tbl 10) = some rs → ∀ e I g' h' tk cas, Up B.h h' → Up g g' → Up g' h' → (∀ b ∈ B.hid, g'.get? b = none) → RSt w e B I d g' h' rs cas → R (.ok (.ret .none)) { s with heap := h', toks := tk })
    (hbad : readLines (splitT tbl 10) = none → ∀ e g' h' tk v, (∀ l, A.frames = some l → (A.deeper e).frames = some (e :: l)) → e.frame = some e.locals → (∀ b ∈ mutOf e, s.heap.get? b = none) → Fz e (scopeOf (mth 1)) B g' h' v → ∀ h'' ex vs, Heap.MadeExc h' h'' ex "Exception" vs →
      notedBy (model pw w) (A.deeper e) e (fun x s' => cameBackBy (model pw w) (A.deeper e) e (fun x s' => wpAny (model pw w) (A.deeper e) (leaving e x) (fun _ s'' => R (.error x) s'') (fun y s'' => R (.error y) s'') s') x s') (.ref ex) { s with heap := h'', toks := tk }) :
    codeAny (model pw w) A (.call (.ref (cf.ad 101)) ⟨[.ref x, .str (T tbl) t], []⟩) R s := by
  refine enterE (g := g) (B := B) (l := (["self", "ruletable"] : List Str).zip [Value.ref x, Value.str (T tbl) t]) (vals := [some (.ref x), some (.str (T tbl) t), none, none, none, none, none, none, none, none, none]) hB ug hh hhi (p.m1.up ug) RA (p.gd.nolimit.keeps ug) ?_ ?_ ndM1 fnM1 2 (by kernel_rfl!) fun e h₁ tk₁ u₁ hap R' hfr hef F => ?_
  · intro fd h1 h2
    obtain ⟨⟩ := fd
    dsimp only at h1 h2
    subst h1 h2
    rfl
  · intro q hq
    exact (by decide +kernel : ∀ y ∈ [("self" : Str), "ruletable"], (scopeOf (mth 1)).names.lookup y = some .local ∨ (scopeOf (mth 1)).names.lookup y = some .cell) _ (List.of_mem_zip (a := q.1) (b := q.2) hq).1
  have hdm : d ∉ mutOf e := fun m => hhi d hdh (hap d m)
  have G := p.gd
  obtain ⟨B2, e1, e2, F2, hall, _⟩ := F.rebase [d] (fun b m => by rw [List.mem_singleton] at m; exact m ▸ hdm)
  have hD2 : B2.h.DictOf (PySem.strKind pw w) d [] := dictOf_at (dictOf_at hD fun o => u₁ _ o) (hall d (.head _))
  conv in bodyOf _ => whnf
  refine wpAny_execs_cons ((StF.assign (EvF.attrI N p.kin (EvF.local nM1_self rfl) N.kr hin rfl) nM1_rules (by simp)).run { s with heap := h₁, toks := tk₁ } g _ _ Up.rfl' F2 fun f g1 h1 tk1 v ug1 F3 hv => ?_)
  obtain ⟨rfl, y, rfl, rfl⟩ := hv
  refine wpAny_execs_cons (wpAny_For ((EvF.split1 (EvF.localT nM1_ruletable rfl) (EvF.sg 10) (by rw [sizeLine_eq]; omega)).run { s with heap := h1, toks := tk1 } g1 _ _ Up.rfl' F3 fun lv g2 h2 tk2 u2 ug2 F4 hlv => ?_))
  obtain ⟨vs, hvs, hst⟩ := hlv
  have hlen : (splitT tbl 10).length = vs.length := All2.len hst
  have hlen2 : (splitT tbl 10).length ≤ 50002 := by
    have := split_le (T tbl) (T [10])
    rw [T_len] at this
    unfold splitT; rw [List.length_map]; omega
  have hD4 : h2.DictOf (PySem.strKind pw w) d [] := dictOf_at hD2 fun o => F4.keep _ o
  have F5 := F4.base e2 e1
  refine (Iter.list (x := "line") (p := default) hvs).run (A.deeper e) { s with heap := h2, toks := tk2 } _ _ R'.handled F5.vis fun o fp St ho W hpres hfp hgo hst0 => ?_
  obtain ⟨n1, n2⟩ := F5.fresh (b := h2.objs.size) (Nat.le_refl _)
  have nb : B.h.get? h2.objs.size = none := F5.keep.none (Heap.get?_none_of_le (Nat.le_refl _))
  have ng : g2.get? h2.objs.size = none := F5.vis.none (Heap.get?_none_of_le (Nat.le_refl _))
  have hdI : d ≠ h2.objs.size := fun z => dictOf_in hD4 (z ▸ Heap.get?_none_of_le (Nat.le_refl _))
  refine forLoop_core (s := { s with heap := h2.push o, toks := tk2 }) (g₀ := g2) (B := B) (sc := scopeOf (mth 1)) (vals := [some (.ref x), some (.str (T tbl) t), some (.ref d), none, none, none, none, none, none, none, none]) W hpres n1 n2 nb (fun b hb => (hfp b hb).elim (fun z => z ▸ n1) fun z m => z (F5.goff b m))
    (fun i g h v => ∃ rs cas o3 o4 o5 o6 o7 o8 o9 o10, v = [some (.ref x), some (.str (T tbl) t), some (.ref d), o3, o4, o5, o6, o7, o8, o9, o10] ∧ readLines (splitT tbl 10) = (readLines ((splitT tbl 10).drop i)).map (rs ++ ·) ∧ rs.length ≤ i ∧ RSt w e B h2.objs.size d g h rs cas)
    (fun f g h v => f = .next ∧ ∃ rs cas, readLines (splitT tbl 10) = some rs ∧ RSt w e B h2.objs.size d g h rs cas) ?_ ?_ ?_ ?_ (F5.push o) Up.rfl' ng ?_ hst0
  · rintro i g' h h' v ⟨rs, cas, o3, o4, o5, o6, o7, o8, o9, o10, e3, e4, e5, S⟩ k
    exact ⟨rs, cas, o3, o4, o5, o6, o7, o8, o9, o10, e3, e4, e5, S.move (fun o z => k d o hdI z) (fun q hq o z => k q.2 o (S.off q hq).2.1 z) Up.rfl' fun q hq => (S.off q hq).2.2.2.2.2⟩
  · rintro i y g' v s' B' ⟨hx', tx', rfl⟩ hi hy hB' hall' e2' ug' F' ⟨rs, cas, o3, o4, o5, o6, o7, o8, o9, o10, rfl, e4, e5, S⟩ _ _
    refine wpAny_of_eq (a := ()) rfl ?_
    obtain ⟨ln, hln, tl, rfl⟩ := All2.get hst hy
    refine wpAny_assign_Name (stL F' nM1_line (by simp) fun h3 tk3 F6 k3 _ => ?_)
    have hI' : h2.objs.size ∈ B'.hid := by rw [hB']; exact .head _
    have hoff : ∀ q ∈ cas, q.2 ∉ B'.hid ∧ B'.h.get? q.2 = none := fun q hq => by
      obtain ⟨a1, a2, a3, a4, a5, a6⟩ := S.off q hq
      refine ⟨by rw [hB', List.mem_cons]; exact fun z => z.elim a2 a4, ?_⟩
      cases z : B'.h.get? q.2 with
      | none => rfl
      | some o' =>
        rcases hall' q.2 (by rw [z]; intro z'; cases z') with m | m
        · rcases hfp q.2 m with m | m
          · exact absurd m a2
          · exact absurd (ug'.none a6) m
        · exact absurd a5 m
    have S' : RSt w e B' h2.objs.size d g' h3 rs cas :=
      ⟨⟨dictOf_at S.dict fun o' z => k3 d o' (fun z' => hdm (z' ▸ Fz.locals_mem)) z, S.nd, fun q hq => let ⟨vs', a, b⟩ := S.lst q hq; ⟨vs', plainL_at a fun o' z => k3 q.2 o' (fun z' => (S.off q hq).2.2.1 (z' ▸ Fz.locals_mem)) z, b⟩,
        fun q hq => let ⟨a, b, c, _, _, f⟩ := S.off q hq; ⟨a, b, c, (hoff q hq).1, (hoff q hq).2, f⟩⟩, S.has, S.len⟩
    have hBd' : B'.h.get? d = none := by
      cases z : B'.h.get? d with
      | none => rfl
      | some o' =>
        rcases hall' d (by rw [z]; intro z'; cases z') with m | m
        · rcases hfp d m with m | m
          · exact absurd m hdI
          · exact absurd (F5.hoff d hdh) m
        · exact absurd hBd m
    have hlnl : ln.length ≤ 640 := hlines ln (List.mem_of_getElem? hln)
    have hdr := readLines_drop hln
    have back : ∀ g4 h4 rs' cas', RSt w e B' h2.objs.size d g4 h4 rs' cas' → RSt w e B h2.objs.size d g4 h4 rs' cas' := fun g4 h4 rs' cas' X =>
      ⟨⟨X.dict, X.nd, X.lst, fun q hq => let ⟨a, b, c, d1, e1, f⟩ := X.off q hq; ⟨a, b, c, fun z => d1 (by rw [hB']; exact .tail _ z), e2'.none e1, f⟩⟩, X.has, X.len⟩
    have ug02 : Up g g' := ug1.tr (ug2.tr ug')
    refine rr_turn (s := { s with heap := h3, toks := tk3 }) N (R'.le (by omega)) (p.up ug02) hdm (by rw [hB']; exact .tail _ hdh) hBd' hd hI' hlnl (by omega) F6 S' ?_ ?_
    · rintro f g4 h4 tk4 cas' p3 p4 p5 p6 p7 p8 p9 p10 hf ug4 F7 hc
      refine ⟨g4, h4, tk4, _, rfl, ug4, F7, ?_⟩
      have main : ∃ rs cas o3 o4 o5 o6 o7 o8 o9 o10, [some (.ref x), some (.str (T tbl) t), some (.ref d), p3, p4, p5, p6, p7, p8, p9, p10] = [some (.ref x), some (.str (T tbl) t), some (.ref d), o3, o4, o5, o6, o7, o8, o9, o10] ∧
          readLines (splitT tbl 10) = (readLines ((splitT tbl 10).drop (i + 1))).map (rs ++ ·) ∧ rs.length ≤ i + 1 ∧ RSt w e B h2.objs.size d g4 h4 rs cas := by
        rcases hc with ⟨c1, c2⟩ | ⟨c1, q, c2, c3⟩
        · rw [c1, if_pos rfl] at hdr
          rw [hdr] at e4
          exact ⟨rs, cas', _, _, _, _, _, _, _, _, rfl, e4, by omega, back _ _ _ _ c2⟩
        · rw [c1, if_neg Bool.false_ne_true, c2] at hdr
          rw [hdr] at e4
          refine ⟨rs ++ [turned q], cas', _, _, _, _, _, _, _, _, rfl, ?_, by rw [List.length_append]; simp; omega, back _ _ _ _ c3⟩
          rw [e4, Option.map_map]
          congr 1
          funext z
          simp
      rcases hf with rfl | rfl <;> exact main
    · intro c1 c2 g4 h4 tk4 v' ug4 F7 h5 ex vs' mk
      rw [c1, if_neg Bool.false_ne_true, c2] at hdr
      rw [hdr] at e4
      exact hbad e4 e g4 h4 tk4 v' hfr hef hap (F7.base (B := ⟨B.h, h2.objs.size :: B.hid⟩) e2' hB').delHid.1 h5 ex vs' mk
  · rintro g' h h' v ug' ⟨rs, cas, o3, o4, o5, o6, o7, o8, o9, o10, e3, e4, e5, S⟩ k
    refine ⟨rfl, rs, cas, ?_, S.move (fun o z => k d o hdI z) (fun q hq o z => k q.2 o (S.off q hq).2.1 z) Up.rfl' fun q hq => (S.off q hq).2.2.2.2.2⟩
    rw [e4, ← hlen, List.drop_length]
    simp [readLines]
  · rintro f g' h tk v ug' F' ⟨rfl, rs, cas, e4, S⟩
    exact wpAny_execs_nil (hok rs e4 e h2.objs.size g' h tk cas F'.keep (ug1.tr (ug2.tr ug')) F'.vis F'.hoff S)
  · refine ⟨[], [], _, _, _, _, _, _, _, _, rfl, ?_, Nat.le_refl _, ⟨⟨dictOf_at hD4 fun o' z => Heap.get?_push_of_some _ z, List.nodup_nil, (fun q hq => by cases hq), (fun q hq => by cases hq)⟩, fun c => ⟨fun _ => by simp, fun _ => rfl⟩, Nat.le_refl _⟩⟩
    simp
end
end Mine

end

section
open PySem PySem.W PyProof.Rows PySem.Calls
set_option Elab.async false
set_option linter.unusedVariables false
set_option maxRecDepth 100000
namespace Mine

theorem tc_weight {C : Addr} {rest : List Value} {kw : List (Str × Value)} : (Code.builtin "type.__call__" ⟨.ref C :: rest, kw⟩).weight = 1 := by rfl
theorem tc_units {C : Addr} {rest : List Value} {kw : List (Str × Value)} : (Code.builtin "type.__call__" ⟨.ref C :: rest, kw⟩).cUnits ≤ 8 := by
  first | decide | (show _ ≤ _; rfl) | exact Nat.le_of_ble_eq_true rfl
theorem tc_envs {C : Addr} {rest : List Value} {kw : List (Str × Value)} : (Code.builtin "type.__call__" ⟨.ref C :: rest, kw⟩).envs = [] := by rfl
theorem Room.make {A : Around} {n : Nat} {C : Addr} {rest : List Value} {kw : List (Str × Value)} (R : Room A (n + 1)) : Room (A.under (.builtin "type.__call__" ⟨.ref C :: rest, kw⟩)) n :=
  ⟨R.handled, by show A.depth + _ + n < _; rw [tc_weight]; have := R.depth; omega, by show A.units + _ + 8 * n < _; have := R.units; have := tc_units (C := C) (rest := rest) (kw := kw); omega⟩

section
variable {w : World} {A : Around} {s : Shared} {cf : Cfg}

/-- an empty object gets its first attribute -/
theorem set_first {E : Value → Shared → Prop} {Q : Unit → Shared → Prop} (N : GN cf) (X : cf.K.In s.heap) {x dx : Addr} {v : Value} {name : Str} (hf : findIn cf.K (.ref cf.C) name = some none) (hx : s.heap.get? x = some (instObj cf.C dx)) (hdx : s.heap.get? dx = some emptyDict)
    (h : ∀ h' es n tk, Heap.SameBut dx s.heap h' → h'.get? dx = some (dictOf es n) → getL name es = some (some v) → (∀ y, y ≠ name → getL y es = some none) → Q () { s with heap := h', toks := tk }) :
    wpAny (model pw w) A (setAttr (.ref x) name v) Q E s := by
  have I : InstAt s.heap x (instObj cf.C dx) cf.C (some emptyDict) := ⟨hx, rfl, rfl, hdx⟩
  refine set_plain X I N.hsa ?_
  refine osa_open (s := { s with toks := s.toks + 1 }) X I N.plain (by unfold takerIn; rw [hf]; rfl) fun b => ?_
  obtain ⟨cd, hc, hd'⟩ := any_some N.dict
  refine wpAny_bind (wpAny_pure (wpAny_bind (wpAny_bind (wpAny_loadPart hx (wpAny_bind (Looks.here (s := { s with toks := s.toks + 1 }) (looks_clsIn X hc) ?_))))))
  rw [hd']
  refine wpAny_pure (a := some dx) (wpAny_bind (wpAny_pure (wpAny_bind ?_)))
  unfold nsSet
  refine wpAny_bind (wpAny_bind (wpAny_askSetting (wpAny_pure (wpAny_bind (wpAny_mkText (wpAny_bind (wpAny_loadPart hdx ?_)))))))
  have c : (!(#[] : Array DictEntry).any (·.key.isStr name) && (#[] : Array DictEntry).any (·.refKey)) = false := by simp
  dsimp only [emptyDict]
  rw [aRefKeyMayBeTheName_at, c]
  have e1 := fun hsh tk => putName_dict name hsh (.str name tk) v [] 0
  refine wpAny_updatePart hdx ?_
  have D' := fun (hsh : Int) (tk : Tok) => Heap.get?_update_self (Obj.putName name hsh (.str name tk) v) hdx (by rw [show emptyDict = dictOf [] 0 from rfl, e1 hsh tk]; rfl)
  refine wpAny_bind (wpAny_lookBehind (D' _ _) (by rw [show emptyDict = dictOf [] 0 from rfl, e1]; exact pastItsLine_dict (by rw [List.size_toArray]; show 1 ≤ _; rw [sizeLine_eq]; omega)) ?_)
  refine wpAny_pure (h _ (putL name _ (.str name _) v []) (putN name [] 0) _ (Heap.SameBut.update ..) ((D' _ _).trans (congrArg some (e1 _ _))) ?_ fun y hy => ?_)
  · show getL name [⟨_, .str name _, v⟩] = _
    unfold getL
    simp [Value.isStr]
  · show getL y [⟨_, .str name _, v⟩] = _
    unfold getL
    have : (Value.str name (s.toks + 1)).isStr y = false := by simp [Value.isStr, Ne.symm hy]
    simp [this, DictEntry.refKey]

theorem Fz.hidSub {e : Env} {sc : Scope} {B : Base} {g h : Heap} {vals : List (Option Value)} (hid : List Addr) (F : Fz e sc B g h vals) (hs : ∀ b ∈ hid, b ∈ B.hid) : Fz e sc ⟨B.h, hid⟩ g h vals :=
  ⟨F.env, F.ns, F.cell, F.keep, F.vis, F.off, F.goff, fun b m => F.hoff b (hs b m), fun b m => F.hin b (hs b m), F.min, F.nd⟩

/-- what stands where the table's row is refused: the two frames, and how the call came there -/
structure AtRaise (A : Around) (C : Addr) (rest : List Value) (h₀ h : Heap) (ei er : Env) : Prop where
  up : Up h₀ h
  fi : ei.frame = some ei.locals
  fr : er.frame = some er.locals
  ki : ei.scope.kind = .function
  kr : er.scope.kind = .function
  ni : ∃ m, h.Ns ei.locals m
  nr : ∃ m, h.Ns er.locals m
  oi : h₀.get? ei.locals = none
  or : h₀.get? er.locals = none
  frames : ∀ l, A.frames = some l → (((A.under (.builtin "type.__call__" ⟨.ref C :: rest, []⟩)).deeper ei).deeper er).frames = some (er :: ei :: l) ∧ ((A.under (.builtin "type.__call__" ⟨.ref C :: rest, []⟩)).deeper ei).frames = some (ei :: l)

theorem c_make {R : Result → Shared → Prop} {g : Heap} {hs : List Addr} (N : GN cf) (RA : Room A 5) (hg : Up g s.heap) (hh : ∀ b ∈ hs, g.get? b = none) (hhi : ∀ b ∈ hs, s.heap.get? b ≠ none) (p : TopA cf g) {tbl : List Nat} {t : Tok}
    (hl : tbl.length ≤ 50000) (hlines : ∀ ln ∈ splitT tbl 10, ln.length ≤ 640)
    (hok : ∀ rs, readLines (splitT tbl 10) = some rs → ∀ x g' h' tk, Up s.heap h' → Up g g' → Up g' h' → (∀ b ∈ hs, g'.get? b = none) → StemAt cf w g' x (bkOf rs) → R (.ok (.ret (.ref x))) { s with heap := h', toks := tk })
    (hbad : readLines (splitT tbl 10) = none → ∀ ei er h4 tk, AtRaise A cf.C [.str (T tbl) t] s.heap h4 ei er → ∀ h5 ex vs, Heap.MadeExc h4 h5 ex "Exception" vs →
      notedBy (model pw w) (((A.under (.builtin "type.__call__" ⟨.ref cf.C :: [.str (T tbl) t], []⟩)).deeper ei).deeper er) er (fun x s' => cameBackBy (model pw w) (((A.under (.builtin "type.__call__" ⟨.ref cf.C :: [.str (T tbl) t], []⟩)).deeper ei).deeper er) er
        (fun x s' => wpAny (model pw w) (((A.under (.builtin "type.__call__" ⟨.ref cf.C :: [.str (T tbl) t], []⟩)).deeper ei).deeper er) (leaving er x)
          (fun _ s'' => wpAny (model pw w) ((A.under (.builtin "type.__call__" ⟨.ref cf.C :: [.str (T tbl) t], []⟩)).deeper ei) (leaving ei x) (fun _ s'' => R (.error x) s'') (fun y s'' => R (.error y) s'') s'')
          (fun y s'' => wpAny (model pw w) ((A.under (.builtin "type.__call__" ⟨.ref cf.C :: [.str (T tbl) t], []⟩)).deeper ei) (leaving ei y) (fun _ s'' => R (.error y) s'') (fun y s'' => R (.error y) s'') s'') s') x s')
        (.ref ex) { s with heap := h5, toks := tk }) :
    codeAny (model pw w) A (.call (.ref cf.C) ⟨[.str (T tbl) t], []⟩) R s := by
  obtain ⟨h, gn, dr, tk0, os⟩ := s
  have X := p.kin.keeps hg
  refine make_core (makes_of X N.makes) (looks_findIn X N.k0) (fun self => bind_fn X self N.t0) (.inl rfl) ?_
  generalize hs1 : (h.push emptyDict).push (instObj cf.C h.objs.size) = h1
  have ux : Up h h1 := hs1 ▸ (Up.push _).tr (Up.push _)
  have e1 : (h.push emptyDict).objs.size = h.objs.size + 1 := Heap.size_push ..
  have hx1 : h1.get? (h.objs.size + 1) = some (instObj cf.C h.objs.size) := by rw [← hs1, ← e1]; exact Heap.get?_push_size _ rfl
  have hd1 : h1.get? h.objs.size = some emptyDict := by rw [← hs1]; exact Heap.get?_push_of_some _ (Heap.get?_push_size _ rfl)
  have n0 : ∀ a, h.objs.size ≤ a → h.get? a = none := fun a ha => Heap.get?_none_of_le ha
  have nx : h.get? (h.objs.size + 1) = none := n0 _ (Nat.le_succ _)
  have nd : h.get? h.objs.size = none := n0 _ (Nat.le_refl _)
  have R1 := RA.make (C := cf.C) (rest := [.str (T tbl) t]) (kw := [])
  refine enterE (s := ⟨h1, gn, dr, tk0, os⟩) (g := g) (B := ⟨h, h.objs.size :: hs⟩) (l := (["self", "ruletable"] : List Str).zip [Value.ref (h.objs.size + 1), Value.str (T tbl) t]) (vals := [some (.ref (h.objs.size + 1)), some (.str (T tbl) t)]) ux (hg.tr ux)
    (fun b m => by
      rcases List.mem_cons.mp m with rfl | m
      · exact hg.none nd
      · exact hh b m) (fun b m => by
      rcases List.mem_cons.mp m with rfl | m
      · rw [hd1]; intro z; cases z
      · exact ux.in (hhi b m)) (p.m0.up (hg.tr ux)) R1 (p.gd.nolimit.keeps (hg.tr ux)) ?_ ?_ ndM0 fnM0 0 (by kernel_rfl!) fun ei h₁ tk₁ u₁ hap R' hfr hef F => ?_
  · intro fd h1 h2
    obtain ⟨⟩ := fd
    dsimp only at h1 h2
    subst h1 h2
    rfl
  · intro q hq
    exact (by decide +kernel : ∀ y ∈ [("self" : Str), "ruletable"], (scopeOf (mth 0)).names.lookup y = some .local ∨ (scopeOf (mth 0)).names.lookup y = some .cell) _ (List.of_mem_zip (a := q.1) (b := q.2) hq).1
  conv in bodyOf _ => whnf
  -- self.rules = {}
  refine wpAny_execs_cons (plainObj_wpAny_Assign_Attribute (wpAny_Dict_empty ?_))
  obtain ⟨n1, n2⟩ := F.fresh (b := h₁.objs.size) (Nat.le_refl _)
  have hdo : (h₁.push { cls := .type "dict", data := .dict #[] }).get? h₁.objs.size = some { cls := .type "dict", data := .dict #[] } := Heap.get?_push_size _ rfl
  have F1 := (F.push { cls := .type "dict", data := .dict #[] }).addHid (I := h₁.objs.size) (F.vis.none (Heap.get?_none_of_le (Nat.le_refl _))) (by rw [hdo]; intro z; cases z)
  have hxm : h.objs.size + 1 ∉ mutOf ei := fun m => by have := hap _ m; rw [show (⟨h1, gn, dr, tk0, os⟩ : Shared).heap = h1 from rfl, hx1] at this; cases this
  have hdxm : h.objs.size ∉ mutOf ei := fun m => by have := hap _ m; rw [show (⟨h1, gn, dr, tk0, os⟩ : Shared).heap = h1 from rfl, hd1] at this; cases this
  have hh₁ : ∀ b o, h1.get? b = some o → b ≠ h₁.objs.size := fun b o z => Nat.ne_of_lt (Heap.lt_size (u₁ _ _ z))
  refine (EvF.local nM0_self rfl).run ⟨h₁.push { cls := .type "dict", data := .dict #[] }, gn, dr, tk₁, os⟩ g _ _ Up.rfl' F1 fun v g2 h2 tk2 u2 ug2 F2 e2 => ?_
  subst e2
  have u12 : Up h1 h2 := u₁.tr ((Up.push _).tr u2)
  refine set_first (s := ⟨h2, gn, dr, tk2, os⟩) N (p.kin.keeps (hg.tr (ux.tr u12))) N.kr (u12 _ _ hx1) (u12 _ _ hd1) fun h3 es n tk3 hs3 hes hget hno => ?_
  have k3 : ∀ b o, b ≠ h.objs.size → h2.get? b = some o → h3.get? b = some o := fun b o hb z => (hs3.2 b hb).trans z
  have F3 := F2.but hdxm (.inr (by rw [hes]; intro z; cases z)) nd (F2.hoff _ (.tail _ (.head _))) k3
  have F4 := F3.hidSub (h₁.objs.size :: hs) (fun b m => by
    rcases List.mem_cons.mp m with rfl | m
    · exact .head _
    · exact .tail _ (.tail _ m))
  obtain ⟨ug5, F5⟩ := F4.max
  have hxhs : h.objs.size + 1 ∉ hs := fun m => hhi _ m nx
  have hdxhs : h.objs.size ∉ hs := fun m => hhi _ m nd
  have hx3 : h3.get? (h.objs.size + 1) = some (instObj cf.C h.objs.size) := k3 _ _ (Nat.succ_ne_self _) (u12 _ _ hx1)
  have hd3 : h3.get? h₁.objs.size = some { cls := .type "dict", data := .dict #[] } := k3 _ _ (fun z => hh₁ _ _ hd1 z.symm) (u2 _ _ hdo)
  have gx := seeAll_get (e := ei) (B := ⟨h, h₁.objs.size :: hs⟩) hx3 hxm (fun m => by
    rcases List.mem_cons.mp m with z | m
    · exact hh₁ _ _ hx1 z
    · exact hxhs m)
  have gdx := seeAll_get (e := ei) (B := ⟨h, h₁.objs.size :: hs⟩) hes hdxm (fun m => by
    rcases List.mem_cons.mp m with z | m
    · exact hh₁ _ _ hd1 z
    · exact hdxhs m)
  generalize seeAll ei ⟨h, h₁.objs.size :: hs⟩ h3 = g5 at ug5 F5 gx gdx
  have ug : Up g g5 := ug2.tr ug5
  -- self.read_rules(ruletable)
  refine wpAny_execs_cons (wpAny_Expr_any (hi := not_interactive F5.env) ?_)
  refine MethodCall_ ((EvF.local nM0_self rfl).run ⟨h3, gn, dr, tk3, os⟩ g5 _ _ Up.rfl' F5 fun v g6 h6 tk6 u6 ug6 F6 e3 => ?_)
  subst e3
  have I6 : InstAt h6 (h.objs.size + 1) (instObj cf.C h.objs.size) cf.C (some (dictOf es n)) := ⟨u6 _ _ hx3, rfl, rfl, u6 _ _ hes⟩
  refine method_fn (s := ⟨h6, gn, dr, tk6, os⟩) (K := cf.K) (p.kin.keeps ((ug.tr ug6).tr F6.vis)) I6 N.hga N.hgm N.k1 N.t1 (by
    show (lookIn "read_rules" (dictOf es n)).map (·.isSome) = some false
    rw [show lookIn "read_rules" (dictOf es n) = some none from hno _ (by decide +kernel)]; rfl) ?_
  obtain ⟨ob, fd, ho1, ho2, _⟩ := p.m1.at_
  refine callWith_function (o := ob) (fd := fd) (evalArgs_any rfl ((EvL.one (EvF.localT nM0_ruletable rfl) Mono.vs).run ⟨h6, gn, dr, tk6, os⟩ g6 _ _ Up.rfl' F6 fun vs g7 h7 tk7 u7 ug7 F7 hvs => ⟨⟨F7.vis _ _ (ug7 _ _ (ug6 _ _ (ug _ _ ho1))), ho2⟩, ?_⟩))
  obtain ⟨tv, rfl, tt, rfl⟩ := hvs
  have ug07 : Up g g7 := ug.tr (ug6.tr ug7)
  have u37 : Up h3 h7 := u6.tr u7
  have hd7 := u37 _ _ hd3
  have hdm : h₁.objs.size ∉ mutOf ei := n1
  show wpAny _ _ (call (.ref (cf.ad 101)) [.ref (h.objs.size + 1), .str (T tbl) tt] []) _ _ _
  refine wpAny_call ?_
  have hD7 : h7.DictOf (PySem.strKind pw w) h₁.objs.size [] := ⟨_, #[], 0, hd7, ⟨rfl, rfl, rfl⟩, rfl, fun e' he' => by simp at he', .nil, List.nodup_nil⟩
  have hsm : (h₁.objs.size == sysModules) = false := by
    obtain ⟨mc, hn, _⟩ := p.gd.nodigits
    have h1 : cStatics < h₁.objs.size := Heap.Ns.lt (hn.keeps F.vis)
    have h2 : (2 : Nat) < h₁.objs.size := h1
    exact beq_eq_false_iff_ne.mpr fun z => by have z' : h₁.objs.size = (1 : Nat) := z; omega
  refine c_read_rules (s := ⟨h7, gn, dr, tk7, os⟩) (B := ⟨hideAll h7 [h₁.objs.size], h₁.objs.size :: (mutOf ei ++ hs)⟩) (g := g7) N (R'.le (by omega)) (fun _ _ z => of_hideAll _ z) F7.vis ?_ ?_ (p.up ug07) ⟨h.objs.size, es, n, ug7 _ _ (ug6 _ _ gx), ug7 _ _ (ug6 _ _ gdx), hget⟩ (.head _) (hideAll_none _ (.head _)) hsm hD7 hl hlines ?_ ?_
  · intro b m
    rcases List.mem_cons.mp m with rfl | m
    · exact F7.hoff _ (.head _)
    · exact (List.mem_append.mp m).elim (F7.goff b) fun m => F7.hoff b (.tail _ m)
  · intro b m
    rcases List.mem_cons.mp m with rfl | m
    · rw [show (⟨h7, gn, dr, tk7, os⟩ : Shared).heap = h7 from rfl, hd7]; intro z; cases z
    · exact (List.mem_append.mp m).elim (F7.min b) fun m => F7.hin b (.tail _ m)
  · intro rs hrs er I g8 h8 tk8 cas hB8 ug8 v8 k8 S
    have hdhs : h₁.objs.size ∉ hs := fun m => n2 (.tail _ m)
    have uh8 : Up h h8 := fun b o z => hB8 b o (hideAll_get _ (F7.keep b o z) fun m => by
      rw [List.mem_singleton] at m
      exact hh₁ b o (ux b o z) m)
    have ugf : Up g8 (hideAll h8 hs) := fun b o z => hideAll_get _ (v8 b o z) fun m => by
      rw [k8 b (.tail _ (List.mem_append_right _ m))] at z; cases z
    have u58 : Up g5 (hideAll h8 hs) := (ug6.tr (ug7.tr ug8)).tr ugf
    refine wpAny_execs_nil ⟨rfl, hok rs hrs (h.objs.size + 1) (hideAll h8 hs) h8 tk8 uh8 (ug.tr u58) (fun _ _ z => of_hideAll _ z) (fun b m => hideAll_none _ m) ⟨h₁.objs.size, ⟨h.objs.size, es, n, u58 _ _ gx, u58 _ _ gdx, hget, hno _ (by decide +kernel), hno _ (by decide +kernel), hno _ (by decide +kernel), hno _ (by decide +kernel)⟩, hsm, ?_⟩⟩
    have hnd : (cas.map (·.1)).Nodup := by
      obtain ⟨_, _, _, _, _, _, _, _, hn⟩ := S.dict
      rw [List.map_map] at hn
      have : (cas.map (·.1)).map (fun c => T [c]) = cas.map ((fun x : Str × Value => x.1) ∘ fun p => (T [p.1], Value.ref p.2)) := by rw [List.map_map]; rfl
      rw [← this] at hn
      exact hn.of_map _ fun x y h hxy => h (by rw [hxy])
    refine ⟨_, (dictOf_at S.dict fun o z => hideAll_get _ z hdhs).mapOf, fun c => ?_⟩
    rw [valueAt_cas]
    by_cases hm : c ∈ cas.map (·.1)
    · refine .inr ⟨fun z => (S.has c).mp z hm, ?_⟩
      obtain ⟨⟨c', a⟩, hm', hce⟩ := List.mem_map.mp hm
      have hce : c' = c := hce
      subst hce
      rw [cas_find hnd hm']
      obtain ⟨vs, ⟨o, nn, q1, q2, q3, q4⟩, q5⟩ := S.lst _ hm'
      obtain ⟨a1, a2, a3, a4, a5, a6⟩ := S.off _ hm'
      refine ⟨.ref a, vs, rfl, ⟨a, rfl, o, hideAll_get _ q1 fun m => a4 (.tail _ (List.mem_append_right _ m)), q2, nn, q4⟩, q5.imp fun _ _ z => z.up ugf⟩
    · refine .inl ⟨(S.has c).mpr hm, ?_⟩
      have : cas.find? (fun p => p.1 == c) = none := by
        rw [List.find?_eq_none]
        intro q hq z
        exact hm (List.mem_map.mpr ⟨q, hq, by simpa using z⟩)
      rw [this]; rfl
  · intro hrs er g8 h8 tk8 v8 hfr8 hef8 hap8 F8 h9 ex vs9 mk
    have u78 : ∀ b o, b ≠ h₁.objs.size → h7.get? b = some o → h8.get? b = some o := fun b o hb z => F8.keep b o (hideAll_get _ z fun m => hb (List.mem_singleton.mp m))
    obtain ⟨mi, hni, _⟩ := F7.ns
    obtain ⟨mr, hnr, _⟩ := F8.ns
    refine hbad hrs ei er h8 tk8 ⟨fun b o z => u78 b o (hh₁ b o (ux b o z)) (F7.keep b o z), hef, hef8, by rw [F.env.scope]; exact F.env.kind, by rw [F8.env.scope]; exact F8.env.kind, ⟨mi, ns_at hni fun o => u78 _ o fun z => n1 (z ▸ Fz.locals_mem)⟩, ⟨mr, hnr⟩,
      ux.none (hap _ Fz.locals_mem), ?_, fun l hA => ?_⟩ h9 ex vs9 mk
    · cases z : h.get? er.locals with
      | none => rfl
      | some o =>
        have := hap8 _ Fz.locals_mem
        rw [show (⟨h7, gn, dr, tk7, os⟩ : Shared).heap = h7 from rfl, F7.keep _ _ z] at this
        cases this
    · have h1 := hfr l ((congrArg (pushEnvs · A.frames) (tc_envs (C := cf.C) (rest := [.str (T tbl) t]) (kw := []))).trans hA)
      exact ⟨hfr8 _ h1, h1⟩
end
end Mine

end

section
open PySem PySem.W PyProof.Rows PySem.Calls
set_option Elab.async false
set_option linter.unusedVariables false
set_option maxRecDepth 100000
namespace Mine

section
variable {w : World} {A : Around} {E : Value → Shared → Prop} {s : Shared} {e : Env} {sc : Scope} {B : Base} {g g₀ h : Heap} {vals : List (Option Value)} {pos : Pos} {rest : List Stmt} {P : PostT} {cf : Cfg}

theorem EvF.absI {f : Str} {p : Pos} {t : Expr} {a : Int} (hf : EvF w A e sc B vals g₀ (.Name f p) (fun _ v => v = .builtin "abs")) (ha : EvF w A e sc B vals g₀ t (VI a))
    (he : starEach [t] e = (false, eval t e) :: starEach [] e := by rfl) (hp : (backTo pos (starEach [t] e)).any (·.1) = false := by rfl) :
    EvF w A e sc B vals g₀ (.Call (.Name f p) [t] [] pos) (VN a.natAbs) :=
  EvF.callB hf (EvL.one ha Mono.vi he) (fun g vs _ ⟨v, e1, t, e2⟩ s Q E F k => by
    subst e1 e2
    refine call_abs_int fun u tk => ?_
    have e3 : (if a < 0 then -a else a) = ((a.natAbs : Nat) : Int) := by split <;> omega
    rw [e3]
    exact k _ g s.heap _ Up.rfl' Up.rfl' F ⟨_, rfl⟩) hp
theorem EvF.powN {l r : Expr} {a b : Nat} (hl : EvF w A e sc B vals g₀ l (VN a)) (hr : EvF w A e sc B vals g₀ r (VN b)) (ha : a < 2 ^ 64) (hb : b ≤ 1000000) : EvF w A e sc B vals g₀ (.BinOp l .Pow r pos) (VN (a ^ b)) :=
  EvF.bin0 hl (fun _ _ _ _ x => x) hr fun _ _ _ ⟨_, hv⟩ ⟨_, hu⟩ _ _ _ h => by
    subst hv hu
    refine pow_int_small (by omega) (by omega) (by omega) ?_
    have e3 : ((a : Int) ^ (b : Int).toNat) = ((a ^ b : Nat) : Int) := by simp
    rw [e3]
    exact h _ _ ⟨_, rfl⟩

theorem EvF.lenL {f : Str} {p : Pos} {t : Expr} {n : Nat} (hf : EvF w A e sc B vals g₀ (.Name f p) (fun _ v => v = .builtin "len")) (ha : EvF w A e sc B vals g₀ t (fun g v => ∃ vs, IsLst g v vs ∧ vs.length = n)) (hn : n ≤ sizeLine)
    (he : starEach [t] e = (false, eval t e) :: starEach [] e := by rfl) (hp : (backTo pos (starEach [t] e)).any (·.1) = false := by rfl) :
    EvF w A e sc B vals g₀ (.Call (.Name f p) [t] [] pos) (VN n) :=
  EvF.callB hf (EvL.one ha (fun g g' v u ⟨vs, h, e⟩ => ⟨vs, h.up u, e⟩) he) (fun g vs _ ⟨v, e1, vs', ⟨a, e2, hl⟩, e3⟩ s Q E F k => by
    subst e1 e2
    refine len_list (items := vs'.toArray) (let ⟨o, ho, r⟩ := hl; ⟨o, F.vis _ _ ho, r⟩) (by rw [List.size_toArray]; rw [sizeLine_eq] at hn; omega) ?_
    rw [List.size_toArray, e3]
    exact k _ g s.heap _ Up.rfl' Up.rfl' F ⟨_, rfl⟩) hp

/-- an item of a list -/
theorem EvF.itemL {v i : Expr} {k : Nat} {K : Heap → Value → Prop} {U : Heap → Value → Prop} (hv : EvF w A e sc B vals g₀ v K) (hK : Mono K) (hi : EvF w A e sc B vals g₀ i (VN k)) (hk : k ≤ sizeLine)
    (hx : ∀ g x, Up g₀ g → K g x → ∃ vs y, IsLst g x vs ∧ vs[k]? = some y ∧ U g y)
    (hs : ∀ l u, subscripted i false (.ref l) (.int k u) = operate [.ref l, .int k u] (getItem (.ref l) (.int k u)) := by intro _ _; with_unfolding_all rfl) : EvF w A e sc B vals g₀ (.Subscript v i pos) U :=
  EvF.sub hv hK hi fun g x _ ug hKx ⟨u, e2⟩ s Q E F h => by
    subst e2
    obtain ⟨vs, y, ⟨a, e1, hl⟩, hy, hU⟩ := hx g x ug hKx
    subst e1
    have hl' : s.heap.IsList a vs.toArray := let ⟨o, ho, r⟩ := hl; ⟨o, F.vis _ _ ho, r⟩
    exact tail_any hl'.typeIs slot_list_getitem.lookup (wpAny_getItem_list hl' (by omega) (by rw [sizeLine_eq] at hk; omega) (by simpa using hy) (h _ g s.heap _ Up.rfl' Up.rfl' F hU)) (hs _ _)
/-- an item of a tuple -/
theorem EvF.itemTu {v i : Expr} {k : Nat} {K : Heap → Value → Prop} {U : Heap → Value → Prop} (hv : EvF w A e sc B vals g₀ v K) (hK : Mono K) (hi : EvF w A e sc B vals g₀ i (VN k)) (hk : k ≤ sizeLine)
    (hx : ∀ g x, Up g₀ g → K g x → ∃ vs y, Mine.IsTup g x vs ∧ vs[k]? = some y ∧ U g y)
    (hs : ∀ l u, subscripted i false (.ref l) (.int k u) = operate [.ref l, .int k u] (getItem (.ref l) (.int k u)) := by intro _ _; with_unfolding_all rfl) : EvF w A e sc B vals g₀ (.Subscript v i pos) U :=
  EvF.sub hv hK hi fun g x _ ug hKx ⟨u, e2⟩ s Q E F h => by
    subst e2
    obtain ⟨vs, y, ⟨a, e1, hl⟩, hy, hU⟩ := hx g x ug hKx
    subst e1
    have hlt : k < vs.length := (List.getElem?_eq_some_iff.mp hy).1
    have hl' : s.heap.IsTuple a vs.toArray := let ⟨o, ho, r⟩ := hl; ⟨o, F.vis _ _ ho, r⟩
    exact tail_any (PyProof.Rows.IsTup.typeIs hl') slot_tuple_getitem.lookup (getItem_tuple (j := k) hl' (by omega) (by rw [sizeLine_eq] at hk; omega) (seqIndex_of (by omega) (by rw [List.size_toArray]; omega)) (by simpa using hy) (h _ g s.heap _ Up.rfl' Up.rfl' F hU)) (hs _ _)

/-! ### range -/
def IsRng (g : Heap) (v : Value) (n : Nat) : Prop := ∃ a t u x, v = .ref a ∧ IsRange g a 0 (n : Int) 1 t u x
theorem EvF.range1 {f : Str} {p : Pos} {t : Expr} {n : Nat} (hf : EvF w A e sc B vals g₀ (.Name f p) (fun _ v => v = .type "range")) (ha : EvF w A e sc B vals g₀ t (VN n))
    (he : starEach [t] e = (false, eval t e) :: starEach [] e := by rfl) (hp : (backTo pos (starEach [t] e)).any (·.1) = false := by rfl) :
    EvF w A e sc B vals g₀ (.Call (.Name f p) [t] [] pos) (fun g v => IsRng g v n) :=
  EvF.callT hf (EvL.one ha Mono.vi he) (fun g vs _ ⟨v, e1, t, e2⟩ s Q E F k => by
    subst e1 e2
    refine call_range_1 ?_
    obtain ⟨g₂, ug₂, F₂, hg⟩ := F.new { cls := .type "range", data := .fields #[.int 0 s.toks, .int n t, .int 1 (s.toks + 1)] } rfl
    exact k _ g₂ _ _ (Up.push _) ug₂ F₂ ⟨_, _, _, _, rfl, hg⟩) hp
theorem Iter.range {x : Str} {p : Pos} {v : Value} {n : Nat} (hv : IsRng g v n) (hn : n ≤ 1000000) : Iter w (.Name x p) g v n (fun i v => ∃ t, v = .int (i : Nat) t) := .mk fun A s Q E hA u k => by
  obtain ⟨a, t, t2, t3, rfl, hr⟩ := hv
  have hz : Builtin.Range.rangeSize 0 (n : Int) 1 = (n : Int) := by unfold Builtin.Range.rangeSize; simp; omega
  have hsm : Builtin.Range.small 0 (n : Int) 1 = true := by
    unfold Builtin.Range.small Builtin.Range.rangeFitsLong
    rw [hz]
    simp
    omega
  refine wpAny_pyIter_range (u _ _ hr) hsm ?_
  have W := Walks.range (prog := pw) (w := w) (A := A) hA s.heap.objs.size 0 1 n
  have W' : Walks pw w A s.heap.objs.size [s.heap.objs.size] [s.heap.objs.size] n (fun i v => ∃ t, v = .int (i : Nat) t) (fun i h => IsRangeIter h s.heap.objs.size (0 + (i : Nat) * 1) ((n : Int) - (i : Nat)) 1) := by
    simpa using W
  refine k _ _ _ rfl W' (fun i h st => fun z => by rw [show h.get? s.heap.objs.size = _ from st] at z; cases z) (fun b hb => by rw [List.mem_singleton] at hb; exact .inl hb) (fun i x s' Q E _ _ q => wpAny_of_eq (a := ()) rfl q) ?_
  rw [hz]
  have := Heap.get?_push_size s.heap (o := { cls := .type "range_iterator", data := .fields #[rawInt 0, rawInt (n : Int), rawInt 1] }) rfl
  simpa using this
end
end Mine

end

section
open PySem PySem.W PyProof.Rows PySem.Calls
set_option Elab.async false
set_option linter.unusedVariables false
set_option maxRecDepth 100000
namespace Mine

def lets : List Nat := [97, 101, 98, 116, 115, 105, 110, 121]
def constOf : Stmt → Str
  | .Assign _ (.Constant (.str x) _ _) _ => x
  | _ => "" 
/-- the default table's signs -/
def defT : List Nat := (constOf (stt 5)).cps.toList
/-- the names of the text's second part -/
structure GL (cf : Cfg) : Prop extends GN cf where
  lt : ∃ t, cf.mg "_law_letters" = some (.str (T lets) t)
  starts : cf.mg "_law_starts" = some (.ref (cf.ad 10))
  faults : cf.mg "_law_faults" = some (.ref (cf.ad 11))
  take : cf.mg "_law_take" = some (.ref (cf.ad 12))
  lrow : cf.mg "_law_letter_row" = some (.ref (cf.ad 13))
  lrule : cf.mg "_law_rule" = some (.ref (cf.ad 14))
  told : cf.mg "_law_told" = some (.ref (cf.ad 15))
  lread : cf.mg "_law_read" = some (.ref (cf.ad 16))
  lword : cf.mg "_law_word" = some (.ref (cf.ad 17))
  lstem : cf.mg "_law_stem" = some (.ref (cf.ad 18))
  refused : cf.mg "_law_refused" = some (.ref (cf.ad 19))
  stem : cf.mg "stem" = some (.ref (cf.ad 7))
  std : cf.mg "_standard" = some (.ref (cf.ad 6))
  defs : ∃ t, cf.mg "defaultrules" = some (.str (T defT) t)
  abs : cf.mg "abs" = none
  range : cf.mg "range" = none
  keepC : keepIn cf.K (.ref cf.C) = true
/-- the standard stemmer's rules -/
def stdBk : Nat → List Rule := bkOf ((readLines (splitT defT 10)).getD [])
structure TopL (w : World) (cf : Cfg) (g : Heap) : Prop extends TopA cf g where
  f7 : FnAt g (cf.ad 7) (stt 7) "stem"
  f10 : FnAt g (cf.ad 10) (stt 10) "_law_starts"
  f11 : FnAt g (cf.ad 11) (stt 11) "_law_faults"
  f12 : FnAt g (cf.ad 12) (stt 12) "_law_take"
  f13 : FnAt g (cf.ad 13) (stt 13) "_law_letter_row"
  f14 : FnAt g (cf.ad 14) (stt 14) "_law_rule"
  f15 : FnAt g (cf.ad 15) (stt 15) "_law_told"
  f16 : FnAt g (cf.ad 16) (stt 16) "_law_read"
  f17 : FnAt g (cf.ad 17) (stt 17) "_law_word"
  f18 : FnAt g (cf.ad 18) (stt 18) "_law_stem"
  f19 : FnAt g (cf.ad 19) (stt 19) "_law_refused"
  stdS : StemAt cf w g (cf.ad 6) stdBk
theorem TopL.up {w : World} {cf} {g g' : Heap} (t : TopL w cf g) (u : Up g g') : TopL w cf g' :=
  ⟨t.toTopA.up u, t.f7.up u, t.f10.up u, t.f11.up u, t.f12.up u, t.f13.up u, t.f14.up u, t.f15.up u, t.f16.up u, t.f17.up u, t.f18.up u, t.f19.up u, t.stdS.up u⟩

/-! ## the script's numbers, rows of letters -/
def takeN (xs : List Int) (k : Nat) : Nat := if k < xs.length then (xs.getD k 0).natAbs % 10 ^ 24 else 37 * k + 11
def letRow : Nat → Nat → List Nat
  | _, 0 => []
  | n, s + 1 => lets.getD (n % 8) 0 :: letRow (n / 8) s
theorem letRow_len : ∀ (s n : Nat), (letRow n s).length = s
  | 0, _ => rfl
  | s + 1, n => by show (letRow (n / 8) s).length + 1 = _; rw [letRow_len s]
/-- a list of ints -/
def IntL (g : Heap) (v : Value) (xs : List Int) : Prop := ∃ ys, IsLst g v ys ∧ IntsOf xs ys
theorem IntL.up {g g' : Heap} {v xs} (x : IntL g v xs) (u : Up g g') : IntL g' v xs := let ⟨ys, a, b⟩ := x; ⟨ys, a.up u, b⟩
theorem All2.at {α β : Type} {R : α → β → Prop} {l : List α} {m : List β} (x : All2 R l m) {i : Nat} {a : α} (h : l[i]? = some a) : ∃ b, m[i]? = some b ∧ R a b := by
  induction x generalizing i with
  | nil => simp at h
  | cons r _ ih => cases i with
    | zero => simp at h; subst h; exact ⟨_, rfl, r⟩
    | succ i => simp at h; exact ih h

section
variable {w : World} {cf : Cfg}

theorem c_take (N : GL cf) (sv : Value) (xs : List Int) (k : Nat) (u : Tok) (hk : k ≤ 1000) (hx : xs.length ≤ sizeLine) : Gives w 1 (.ref (cf.ad 12)) [sv, .int (k : Nat) u] (fun g => TopL w cf g ∧ IntL g sv xs) (VN (takeN xs k)) := by
  refine gives_of ["script", "at"] (vals := [some sv, some (.int (k : Nat) u)]) (fun g p => ⟨p.1.f12, p.1.gd.nolimit⟩) ?_ (by decide +kernel) ndS12 fnS12 2 (by kernel_rfl!) ?_
  · intro fd h1 h2
    obtain ⟨⟩ := fd
    dsimp only at h1 h2
    subst h1 h2
    rfl
  intro A e B g R E ⟨p, hs⟩
  have G := p.gd
  conv in bodyOf _ => whnf
  refine BlF.ite1 (TsF.ltN (EvF.localN nS12_at rfl) (EvF.lenL (EvF.bltin G nS12_len N.len rfl) ((EvF.local nS12_script rfl).weak fun g v ug e => by
    subst e; obtain ⟨ys, a, b⟩ := hs.up ug; exact ⟨ys, a, b.len.symm⟩) hx)) ?_ ?_
  · intro hb
    have hb : k < xs.length := by simpa using hb
    have hget : xs[k]? = some (xs.getD k 0) := by rw [List.getD_eq_getElem?_getD, List.getElem?_eq_getElem hb]; rfl
    refine BlF.ret (EvF.modN (EvF.absI (EvF.bltin G nS12_abs N.abs rfl) (EvF.itemL (K := fun _ v => v = sv) (EvF.local nS12_script rfl) Mono.eq (EvF.localN nS12_at rfl) (by rw [sizeLine_eq]; omega) fun g v ug e => by
      subst e
      obtain ⟨ys, a, b⟩ := hs.up ug
      obtain ⟨y, hy, t, e⟩ := b.at hget
      exact ⟨ys, y, a, hy, t, e⟩)) (EvF.powN (EvF.num 10) (EvF.num 24) (by decide) (by decide)) (by decide)) fun g y u hy => ?_
    unfold takeN
    rw [if_pos hb]
    exact hy
  · intro hb
    have hb : ¬ k < xs.length := by simpa using hb
    refine BlF.ret (EvF.addN (EvF.mulN (EvF.num 37) (EvF.localN nS12_at rfl) ?_) (EvF.num 11)) fun g y u hy => ?_
    · exact IntMulOk.of_left (by decide +kernel)
    unfold takeN
    rw [if_neg hb]
    exact hy

theorem c_letter_row (N : GL cf) (n size : Nat) (t u : Tok) (hz : size ≤ 1000) : Gives w 1 (.ref (cf.ad 13)) [.int (n : Nat) t, .int (size : Nat) u] (TopL w cf) (VT (letRow n size)) := by
  refine gives_of ["number", "size"] (vals := [some (.int (n : Nat) t), some (.int (size : Nat) u), none, none]) (fun g p => ⟨p.f13, p.gd.nolimit⟩) ?_ (by decide +kernel) ndS13 fnS13 2 (by kernel_rfl!) ?_
  · intro fd h1 h2
    obtain ⟨⟩ := fd
    dsimp only at h1 h2
    subst h1 h2
    rfl
  intro A e B g R E p
  have G := p.gd
  obtain ⟨tl, hlt⟩ := N.lt
  have hL : lets.length ≤ sizeLine := by rw [sizeLine_eq]; decide
  conv in bodyOf _ => whnf
  refine BlF.assign (EvF.strT (l := [])) nS13_text ?_
  rintro g₁ y u₁ ⟨t₁, rfl⟩
  refine BlF.for (fun g' v => ∃ (a b c : Option Value) (t' : Tok), v = [a, b, some (.str (T (letRow n size)) t'), c]) R.handled (EvF.range1 (EvF.bltin (G.up u₁) nS13_range N.range rfl) (EvF.localN nS13_size rfl)) ?_ ?_
  · intro g₂ v u₂ hv
    refine ⟨size, _, Iter.range hv (by omega), fun i g' v => ∃ (m : Nat) (l : List Nat) (t1 t2 : Tok) (c : Option Value), v = [some (.int (m : Nat) t1), some (.int (size : Nat) u), some (.str (T l) t2), c] ∧ l ++ letRow m (size - i) = letRow n size ∧ l.length = i, ⟨n, [], t, t₁, _, rfl, rfl, rfl⟩, ?_, ?_⟩
    · rintro i x g₃ v hi ⟨tx, rfl⟩ u₃ ⟨m, l, t1, t2, c, rfl, hm, hlen⟩
      refine ⟨_, AsF.name nS13_turn (Nat.lt_succ_self 3), fun B' => ?_⟩
      have u03 := u₁.tr (u₂.tr u₃)
      refine BlF.assign (EvF.addT (EvF.localT nS13_text rfl) (EvF.itemT (x := lets) (EvF.weak (EvF.glob (G.up u03) nS13__law_letters hlt) fun _ _ _ e => ⟨_, e⟩) (EvF.modN (EvF.localN nS13_number rfl) (EvF.num 8) (by decide)) (by
        have : lets.length = 8 := rfl
        omega) hL) (by rw [sizeLine_eq]; show l.length + 1 ≤ _; omega)) nS13_text ?_
      rintro g₄ y u₄ ⟨t₄, rfl⟩
      refine BlF.assign (EvF.divN (EvF.localN nS13_number rfl) (EvF.num 8) (by decide) (by decide)) nS13_number ?_
      rintro g₅ y u₅ ⟨t₅, rfl⟩
      refine BlF.nil fun g₆ u₆ => ⟨m / 8, _, t₅, t₄, _, rfl, ?_, by simp; omega⟩
      rw [← hm, show size - i = (size - (i + 1)) + 1 by omega]
      show _ = l ++ (lets.getD (m % 8) 0 :: letRow (m / 8) (size - (i + 1)))
      simp
    · rintro g₃ v u₃ ⟨m, l, t1, t2, c, rfl, hm, hlen⟩
      rw [Nat.sub_self] at hm
      have : l = letRow n size := by rw [← hm]; show l = l ++ []; simp
      subst this
      exact ⟨_, _, _, t2, rfl⟩
  · rintro g₂ v u₂ ⟨a, b, c, t', rfl⟩
    exact BlF.ret (EvF.localT nS13_text rfl) fun g y u hy => hy
end
end Mine

end

section
open PySem PySem.W PyProof.Rows PySem.Calls
set_option Elab.async false
set_option linter.unusedVariables false
set_option maxRecDepth 100000
namespace Mine

def mores : List (List Nat) := [[], [101], [], [116], [105, 97], [121, 115], [98, 116, 101]]
def lawRule (n : Nat) : Rule :=
  let size := 1 + n % 3
  let gone := 1 + n / 2 % size
  let more := mores.getD (n % 7) []
  ⟨letRow (n / 3) size, n % 5 == 3, gone, more, decide (3 < n % 13) && decide (more.length < gone)⟩
def pre2 : List (List Nat) := [[], [32, 32]]
def post4 : List (List Nat) := [[], [32, 32, 32, 123, 32, 97, 32, 114, 101, 109, 97, 114, 107, 32, 62, 32, 49, 46, 32, 125], [10], [10, 32, 32, 32]]
def rowOf (r : Rule) : List Nat := r.en.reverse ++ (if r.al then [42] else []) ++ [48 + r.n] ++ r.mo ++ (if r.on then [62] else [46])
def told (r : Rule) (n : Nat) : List Nat := pre2.getD (n % 2) [] ++ rowOf r ++ post4.getD (n / 2 % 4) []

theorem StrsOf.item {ls : List (List Nat)} {vs : List Value} (h : StrsOf ls vs) {k : Nat} (hk : k < ls.length) : ∃ y, vs[k]? = some y ∧ ∃ t, y = .str (T (ls.getD k [])) t := by
  obtain ⟨y, hy, t, e⟩ := All2.at h (i := k) (a := ls.getD k []) (by rw [List.getD_eq_getElem?_getD, List.getElem?_eq_getElem hk]; rfl)
  exact ⟨y, hy, t, e⟩

section
variable {w : World} {A : Around} {e : Env} {sc : Scope} {B : Base} {g₀ : Heap} {vals : List (Option Value)} {pos : Pos} {cf : Cfg}
/-- an item of a display of texts -/
theorem EvF.pick {ts : List Expr} {p : Pos} {i : Expr} {k : Nat} (ls : List (List Nat)) (h : All2 (fun l t => ∃ k p x, t = Expr.Constant (.str x) k p ∧ x = T l) ls ts) (hi : EvF w A e sc B vals g₀ i (VN k)) (hk : k < ls.length) (hl : ls.length ≤ sizeLine)
    (hs : ∀ l u, subscripted i false (.ref l) (.int k u) = operate [.ref l, .int k u] (getItem (.ref l) (.int k u)) := by intro _ _; with_unfolding_all rfl) :
    EvF w A e sc B vals g₀ (.Subscript (.List ts p) i pos) (VT (ls.getD k [])) :=
  EvF.itemL (EvF.list strs_up (EvL.strs h) fun g vs h => by rw [← h.len]; exact hl) (fun g g' v u ⟨vs, a, b⟩ => ⟨vs, a.up u, b⟩) hi (by omega) (fun g x u ⟨vs, a, b⟩ => by
    obtain ⟨y, hy, t, e⟩ := b.item hk
    exact ⟨vs, y, a, hy, t, e⟩) hs

theorem EvF.call1 {f : Str} {i : Nat} {p : Pos} {x : Expr} {a : Addr} {st : Stmt} {qual : Str} {n : Nat} {mg : Str → Option Value} {V W : Heap → Value → Prop} (G : Gd mg g₀) (hn : nmAt sc f = some (i, .globalImplicit)) (hv : mg f = some (.ref a)) (hf : FnAt g₀ a st qual) (R : Room A n)
    (hx : EvF w A e sc B vals g₀ x V) (hV : Mono V) (hc : ∀ g v, Up g₀ g → V g v → ∃ P, P g ∧ Mine.Gives w n (.ref a) [v] P W)
    (hd : (f == ("__debug__" : Str)) = false := by decide +kernel)
    (he : starEach [x] e = (false, eval x e) :: starEach [] e := by rfl) (hp : (backTo pos (starEach [x] e)).any (·.1) = false := by rfl) :
    EvF w A e sc B vals g₀ (.Call (.Name f p) [x] [] pos) W :=
  EvF.callD (EvF.glob G hn hv hd) hf (EvL.one hx hV he) R (fun g vs u ⟨v, e1, h⟩ => by subst e1; exact hc g v u h) hp
theorem EvF.call2 {f : Str} {i : Nat} {p : Pos} {x y : Expr} {a : Addr} {st : Stmt} {qual : Str} {n : Nat} {mg : Str → Option Value} {V U W : Heap → Value → Prop} (G : Gd mg g₀) (hn : nmAt sc f = some (i, .globalImplicit)) (hv : mg f = some (.ref a)) (hf : FnAt g₀ a st qual) (R : Room A n)
    (hx : EvF w A e sc B vals g₀ x V) (hV : Mono V) (hy : EvF w A e sc B vals g₀ y U) (hU : Mono U) (hc : ∀ g v u, Up g₀ g → V g v → U g u → ∃ P, P g ∧ Mine.Gives w n (.ref a) [v, u] P W)
    (hd : (f == ("__debug__" : Str)) = false := by decide +kernel)
    (he : starEach [x, y] e = (false, eval x e) :: starEach [y] e := by rfl) (he' : starEach [y] e = (false, eval y e) :: starEach [] e := by rfl) (hp : (backTo pos (starEach [x, y] e)).any (·.1) = false := by rfl) :
    EvF w A e sc B vals g₀ (.Call (.Name f p) [x, y] [] pos) W :=
  EvF.callD (EvF.glob G hn hv hd) hf (EvL.two hx hV hy hU he he') R (fun g vs ug ⟨v, u, e1, h1, h2⟩ => by subst e1; exact hc g v u ug h1 h2) hp
end

section
variable {w : World} {cf : Cfg}
theorem c_rule (N : GL cf) (n : Nat) (t : Tok) : Mine.Gives w 2 (.ref (cf.ad 14)) [.int (n : Nat) t] (TopL w cf) (fun g v => IsRule g v (lawRule n)) := by
  refine gives_of ["number"] (vals := [some (.int (n : Nat) t), none, none, none, none]) (fun g p => ⟨p.f14, p.gd.nolimit⟩) ?_ (by decide +kernel) ndS14 fnS14 2 (by kernel_rfl!) ?_
  · intro fd h1 h2
    obtain ⟨⟩ := fd
    dsimp only at h1 h2
    subst h1 h2
    rfl
  intro A e B g R E p
  have G := p.gd
  conv in bodyOf _ => whnf
  refine BlF.assign (EvF.addN (EvF.num 1) (EvF.modN (EvF.localN nS14_number rfl) (EvF.num 3) (by decide))) nS14_size ?_
  rintro g₁ y u₁ ⟨t₁, rfl⟩
  have hz : 1 + n % 3 ≤ 3 := by omega
  refine BlF.assign (EvF.call2 (n := 1) (W := VT (letRow (n / 3) (1 + n % 3))) (G.up u₁) nS14__law_letter_row N.lrow (p.up u₁).f13 (R.le (by omega)) (EvF.divN (EvF.localN nS14_number rfl) (EvF.num 3) (by decide) (by decide)) Mono.vi (EvF.localN nS14_size rfl) Mono.vi
    fun g v u ug ⟨t1, e1⟩ ⟨t2, e2⟩ => by subst e1 e2; exact ⟨_, p.up (u₁.tr ug), c_letter_row N (n / 3) (1 + n % 3) t1 t2 (by omega)⟩) nS14_ending ?_
  rintro g₂ y u₂ ⟨t₂, rfl⟩
  refine BlF.assign (EvF.addN (EvF.num 1) (EvF.modN (EvF.divN (EvF.localN nS14_number rfl) (EvF.num 2) (by decide) (by decide)) (EvF.localN nS14_size rfl) (by omega))) nS14_gone ?_
  rintro g₃ y u₃ ⟨t₃, rfl⟩
  refine BlF.assign (EvF.pick mores ?_ (EvF.modN (EvF.localN nS14_number rfl) (EvF.num 7) (by decide)) (by show n % 7 < 7; omega) (by rw [sizeLine_eq]; decide)) nS14_more ?_
  · repeat (first | exact All2.nil | refine All2.cons ⟨_, _, _, rfl, by decide +kernel⟩ ?_)
  rintro g₄ y u₄ ⟨t₄, rfl⟩
  have u04 := u₁.tr (u₂.tr (u₃.tr u₄))
  have hm : (mores.getD (n % 7) []).length ≤ sizeLine := by
    have h1 : ∀ i, i < 7 → (mores.getD i []).length ≤ 3 := by decide
    have := h1 (n % 7) (by omega)
    rw [sizeLine_eq]; omega
  exact BlF.ret (EvF.rule5 (r := lawRule n) (EvF.localT nS14_ending rfl) (EvF.eqN (EvF.modN (EvF.localN nS14_number rfl) (EvF.num 5) (by decide)) (EvF.num 3)) (EvF.localN nS14_gone rfl) (EvF.localT nS14_more rfl)
    (EvF.andB (EvF.gtN (EvF.modN (EvF.localN nS14_number rfl) (EvF.num 13) (by decide)) (EvF.num 3)) fun _ => EvF.and1 (EvF.ltN (EvF.lenT (EvF.bltin (G.up u04) nS14_len N.len rfl) (EvF.localT nS14_more rfl) hm) (EvF.localN nS14_gone rfl)))) fun g y u hy => hy

theorem c_told (N : GL cf) (rv : Value) (r : Rule) (n : Nat) (t : Tok) (hn : r.n < 10) (he : r.en.length ≤ 100) (hm : r.mo.length ≤ 100) : Mine.Gives w 1 (.ref (cf.ad 15)) [rv, .int (n : Nat) t] (fun g => TopL w cf g ∧ IsRule g rv r) (VT (told r n)) := by
  refine gives_of ["rule", "number"] (vals := [some rv, some (.int (n : Nat) t), none, none, none, none, none, none]) (fun g p => ⟨p.1.f15, p.1.gd.nolimit⟩) ?_ (by decide +kernel) ndS15 fnS15 0 (by kernel_rfl!) ?_
  · intro fd h1 h2
    obtain ⟨⟩ := fd
    dsimp only at h1 h2
    subst h1 h2
    rfl
  intro A e B g R E ⟨p, hr⟩
  have G := p.gd
  conv in bodyOf _ => whnf
  refine BlF.step (M := fun g' f v => f = .next ∧ ∃ t1 t2 t3, v = [some rv, some (.int (n : Nat) t), some (.str (T r.en) t1), some (.bool r.al), some (.int (r.n : Int) t2), some (.str (T r.mo) t3), some (.bool r.on), none]) ?_ ?_
  · refine .mk fun s g₁ Q E' u F k => ?_
    obtain ⟨t1, t2, t3, ht⟩ := hr.up u
    refine Assign_Tuple ((EvF.local nS15_rule rfl).run s g₁ _ E' u F fun v g5 h5 tk5 u5 ug5 F7 e3 => ?_)
    subst e3
    exact (AsF.tuple5 R.handled (ht.up ug5) nS15_ending nS15_alone nS15_gone nS15_more nS15_on (by simp) (by simp) (by simp) (by simp) (by simp)).run _ { s with heap := h5, toks := tk5 } g5 _ E' Up.rfl' F7 fun h6 tk6 F8 => k .next g5 h6 tk6 _ ug5 F8 ⟨rfl, t1, t2, t3, rfl⟩
  · rintro g₁ f v u₁ ⟨rfl, t1, t2, t3, rfl⟩
    have L : ∀ m : Nat, m ≤ 1000 → m ≤ sizeLine := fun m h => by rw [sizeLine_eq]; omega
    have la : (if r.al then [42] else ([] : List Nat)).length ≤ 1 := by split <;> simp
    have lo : (if r.on then [62] else ([46] : List Nat)).length ≤ 1 := by split <;> simp
    have hdig : ∀ i, i < 10 → [48, 49, 50, 51, 52, 53, 54, 55, 56, 57].getD i 0 = 48 + i := by decide
    refine BlF.assign (EvF.addT (EvF.addT (EvF.addT (EvF.addT (EvF.revT (EvF.localT nS15_ending rfl) (EvF.neg EvF.int) (L _ (by omega))) (EvF.ifE (V := VT (if r.al then [42] else [])) (TsF.localB nS15_alone rfl) (fun h => by rw [if_pos h]; exact EvF.sg 42) (fun h => by rw [h]; exact EvF.strT)) (L _ (by rw [List.length_reverse]; omega)))
      (EvF.itemT (x := [48, 49, 50, 51, 52, 53, 54, 55, 56, 57]) EvF.strT (EvF.localN nS15_gone rfl) hn (L _ (by simp))) (L _ (by rw [List.length_append, List.length_reverse, List.length_singleton]; omega))) (EvF.localT nS15_more rfl) (L _ (by simp only [List.length_append, List.length_reverse, List.length_singleton]; omega)))
      (EvF.ifE (V := VT (if r.on then [62] else [46])) (TsF.localB nS15_on rfl) (fun h => by rw [if_pos h]; exact EvF.sg 62) (fun h => by rw [h]; exact EvF.sg 46)) (L _ (by simp only [List.length_append, List.length_reverse, List.length_singleton]; omega))) nS15_row ?_
    rintro g₂ y u₂ ⟨t₂, rfl⟩
    rw [hdig _ hn]
    have hrow : r.en.reverse ++ (if r.al then [42] else []) ++ [48 + r.n] ++ r.mo ++ (if r.on then [62] else [46]) = rowOf r := rfl
    rw [hrow]
    have hl : (rowOf r).length ≤ 203 := by
      unfold rowOf
      simp only [List.length_append, List.length_reverse, List.length_singleton]; omega
    have l2 : ∀ i, i < 2 → (pre2.getD i []).length ≤ 2 := by decide
    have l4 : ∀ i, i < 4 → (post4.getD i []).length ≤ 20 := by decide
    have l2' := l2 (n % 2) (by omega)
    have l4' := l4 (n / 2 % 4) (by omega)
    refine BlF.ret (EvF.addT (EvF.addT (EvF.pick pre2 ?_ (EvF.modN (EvF.localN nS15_number rfl) (EvF.num 2) (by decide)) (by show n % 2 < 2; omega) (L _ (by decide))) (EvF.localT nS15_row rfl) (L _ (by omega)))
      (EvF.pick post4 ?_ (EvF.modN (EvF.divN (EvF.localN nS15_number rfl) (EvF.num 2) (by decide) (by decide)) (EvF.num 4) (by decide)) (by show n / 2 % 4 < 4; omega) (L _ (by decide))) (L _ (by rw [List.length_append]; omega))) fun g y u hy => hy
    · repeat (first | exact All2.nil | refine All2.cons ⟨_, _, _, rfl, by decide +kernel⟩ ?_)
    · repeat (first | exact All2.nil | refine All2.cons ⟨_, _, _, rfl, by decide +kernel⟩ ?_)
end
end Mine

end

section
open PySem PySem.W PyProof.Rows PySem.Calls
set_option Elab.async false
set_option linter.unusedVariables false
set_option maxRecDepth 100000
namespace Mine

def faults : List (List Nat) := [[97, 98, 46], [97, 49], [49, 46], [97, 42, 46], [97, 98, 49, 44], [42, 49, 46]]
def digs : List Nat := [48, 49, 50, 51, 52, 53, 54, 55, 56, 57]
def digPlaces (h : List Nat) : List Nat := (List.range h.length).filter fun k => decide (h.getD k 0 ∈ digs)
def headOf (l : List Nat) : List Nat := (splitT l 32).getD 0 []
def placeOf (h : List Nat) : Nat := (digPlaces h).getD 0 0
def lawRead (l : List Nat) : Rule :=
  let h := headOf l
  let p := placeOf h
  ⟨(if endsT (h.take p) [42] then (h.take p).take ((h.take p).length - 1) else h.take p).reverse, endsT (h.take p) [42], NumText.digitsVal [h.getD p 0], (h.drop (p + 1)).take (h.length - 1 - (p + 1)), endsT h [62]⟩
def readable (l : List Nat) : Bool := decide (l.length ≤ 1000) && (!(splitT l 32).isEmpty && (decide ((headOf l).length ≤ 1000) && (!(digPlaces (headOf l)).isEmpty && decide (placeOf (headOf l) + 1 ≤ (headOf l).length - 1))))

section
variable {w : World} {cf : Cfg}
theorem c_starts (N : GL cf) : Mine.Gives w 1 (.ref (cf.ad 10)) [] (TopL w cf) (fun g v => ∃ vs, IsLst g v vs ∧ StrsOf prefixes vs) := by
  refine gives_of [] (vals := []) (fun g p => ⟨p.f10, p.gd.nolimit⟩) ?_ (by decide +kernel) ndS10 fnS10 0 (by kernel_rfl!) ?_
  · intro fd h1 h2
    obtain ⟨⟩ := fd
    dsimp only at h1 h2
    subst h1 h2
    rfl
  intro A e B g R E p
  conv in bodyOf _ => whnf
  refine BlF.ret (EvF.list strs_up (EvL.strs (ls := prefixes) ?_) fun g vs h => by rw [← h.len]; decide +kernel) fun g y u hy => hy
  repeat refine .cons ⟨_, _, _, rfl, by decide +kernel⟩ ?_
  exact .nil
theorem c_faults (N : GL cf) : Mine.Gives w 1 (.ref (cf.ad 11)) [] (TopL w cf) (fun g v => ∃ vs, IsLst g v vs ∧ StrsOf faults vs) := by
  refine gives_of [] (vals := []) (fun g p => ⟨p.f11, p.gd.nolimit⟩) ?_ (by decide +kernel) ndS11 fnS11 0 (by kernel_rfl!) ?_
  · intro fd h1 h2
    obtain ⟨⟩ := fd
    dsimp only at h1 h2
    subst h1 h2
    rfl
  intro A e B g R E p
  conv in bodyOf _ => whnf
  refine BlF.ret (EvF.list strs_up (EvL.strs (ls := faults) ?_) fun g vs h => by rw [← h.len]; decide +kernel) fun g y u hy => hy
  repeat refine .cons ⟨_, _, _, rfl, by decide +kernel⟩ ?_
  exact .nil

theorem c_lread (N : GL cf) (l : List Nat) (t : Tok) (hl : readable l = true) : Mine.Gives w 1 (.ref (cf.ad 16)) [.str (T l) t] (TopL w cf) (fun g v => IsRule g v (lawRead l)) := by
  refine gives_of ["row"] (vals := [some (.str (T l) t), none, none, none, none, none]) (fun g p => ⟨p.f16, p.gd.nolimit⟩) ?_ (by decide +kernel) ndS16 fnS16 3 (by kernel_rfl!) ?_
  · intro fd h1 h2
    obtain ⟨⟩ := fd
    dsimp only at h1 h2
    subst h1 h2
    rfl
  intro A e B g R E p
  have G := p.gd
  conv in bodyOf _ => whnf
  have L : ∀ m : Nat, m ≤ 2000 → m ≤ sizeLine := fun m h => by rw [sizeLine_eq]; omega
  simp only [readable, Bool.and_eq_true, decide_eq_true_eq, Bool.not_eq_true'] at hl
  obtain ⟨h1, h2, h3, h4, h5⟩ := hl
  have h2' : 0 < (splitT l 32).length := by
    cases e : splitT l 32 with
    | nil => rw [e] at h2; cases h2
    | cons _ _ => simp
  refine BlF.assignC (EvF.itemL (K := fun g v => ∃ vs, IsLst g v vs ∧ StrsOf (splitT l 32) vs) (U := VT (headOf l)) (k := 0) (EvF.split1 (EvF.localT nS16_row rfl) (EvF.sg 32) (L _ (by omega))) (fun g g' v u ⟨vs, a, b⟩ => ⟨vs, a.up u, b⟩) (EvF.num 0) (Nat.zero_le _) fun g v u ⟨vs, a, b⟩ => by
    obtain ⟨y, hy, t, e⟩ := b.item h2'
    exact ⟨vs, y, a, hy, t, e⟩) nS16_head ?_
  rintro g₁ y u₁ ⟨t₁, rfl⟩
  have hlr : lawRead l = ⟨(if endsT ((headOf l).take (placeOf (headOf l))) [42] then ((headOf l).take (placeOf (headOf l))).take (((headOf l).take (placeOf (headOf l))).length - 1) else (headOf l).take (placeOf (headOf l))).reverse, endsT ((headOf l).take (placeOf (headOf l))) [42],
    NumText.digitsVal [(headOf l).getD (placeOf (headOf l)) 0], ((headOf l).drop (placeOf (headOf l) + 1)).take ((headOf l).length - 1 - (placeOf (headOf l) + 1)), endsT (headOf l) [62]⟩ := rfl
  rw [hlr]
  generalize headOf l = h at *
  have hp0 : (digPlaces h)[0]? = some (placeOf h) := by
    unfold placeOf
    cases e : digPlaces h with
    | nil => rw [e] at h4; cases h4
    | cons _ _ => rfl
  have hpm : placeOf h ∈ digPlaces h := List.mem_of_getElem? hp0
  obtain ⟨hp1, hp2⟩ := List.mem_filter.mp hpm
  rw [List.mem_range] at hp1
  refine BlF.assign (EvF.endswith (EvF.cellT nS16_head rfl) (EvF.sg 62)) nS16_on ?_
  rintro g₂ y u₂ rfl
  have u02 := u₁.tr u₂
  refine BlF.assign (EvF.itemL (k := 0) (U := VN (placeOf h)) (EvF.listComp 1 R.handled (EvF.range1 (EvF.bltin (G.up u02) nS16_range N.range rfl) (EvF.lenT (EvF.bltin (G.up u02) nS16_len N.len rfl) (EvF.cellT nS16_head rfl) (L _ (by omega)))) [none, none, some (.str (T h) t₁)] (by kernel_rfl!) (by decide +kernel) (by decide +kernel) (by decide +kernel) (by decide +kernel) (by decide +kernel)
      (Wl := fun _ ys => All2 (fun i y => ∃ t, y = Value.int ((i : Nat) : Int) t) (digPlaces h) ys) ?_) (fun g g' v u ⟨ys, a, b⟩ => ⟨ys, a.up u, b⟩) (EvF.num 0) (Nat.zero_le _) fun g v u ⟨ys, a, b⟩ => by
        obtain ⟨y, hy, t, e⟩ := b.at hp0
        exact ⟨ys, y, a, hy, t, e⟩) nS16_place ?_
  · rintro g₃ v u₃ hv
    refine ⟨h.length, _, fun k => decide (h.getD k 0 ∈ digs), fun i _ y => ∃ t, y = Value.int ((i : Nat) : Int) t, fun i _ _ _ _ h => h, Iter.range hv (by omega), L _ (by omega), ?_, fun g' ys _ h => h⟩
    rintro cenv B' i y g₂ E' hi ⟨u', rfl⟩ ug
    exact ⟨.inr ⟨_, rfl, TsF.inT1 (EvF.itemT (EvF.cellT (i := 2) (by decide +kernel) rfl) (EvF.localN (i := 1) (by decide +kernel) rfl) hi (L _ (by omega))) (EvF.strT (l := digs))⟩, fun _ => (EvF.local (i := 1) (by decide +kernel) rfl).weak fun _ _ _ e => ⟨_, e⟩⟩
  rintro g₃ y u₃ ⟨t₃, rfl⟩
  generalize placeOf h = q at *
  refine BlF.assign (EvF.cutTo (EvF.cellT nS16_head rfl) (EvF.localN nS16_place rfl) (L _ (by omega))) nS16_ending ?_
  rintro g₄ y u₄ ⟨t₄, rfl⟩
  refine BlF.assign (EvF.endswith (EvF.localT nS16_ending rfl) (EvF.sg 42)) nS16_alone ?_
  rintro g₅ y u₅ rfl
  have u05 := u02.tr (u₃.tr (u₄.tr u₅))
  have htl : (h.take q).length ≤ 1000 := by rw [List.length_take]; omega
  refine BlF.step (M := fun g' f v => f = .next ∧ ∃ t6, v = [some (.str (T l) t), some (.str (T h) t₁), some (.bool (endsT h [62])), some (.int (q : Nat) t₃), some (.str (T (if endsT (h.take q) [42] then (h.take q).take ((h.take q).length - 1) else h.take q)) t6), some (.bool (endsT (h.take q) [42]))])
    (StF.ite (TsF.localB nS16_alone rfl) (fun hb => ?_) (fun hb => BlF.nil fun g' u' => ⟨rfl, t₄, by rw [hb]; rfl⟩)) ?_
  · have h6 : 1 ≤ (h.take q).length := by
      unfold endsT at hb
      rw [Bool.and_eq_true, decide_eq_true_eq] at hb
      simpa using hb.1
    refine BlF.assign (EvF.cutTo (EvF.localT nS16_ending rfl) (EvF.subN (EvF.lenT (EvF.bltin (G.up u05) nS16_len N.len rfl) (EvF.localT nS16_ending rfl) (L _ (by omega))) (EvF.num 1) h6) (L _ (by omega))) nS16_ending ?_
    rintro g₆ y u₆ ⟨t₆, rfl⟩
    exact BlF.nil fun g' u' => ⟨rfl, t₆, by rw [if_pos hb]; rfl⟩
  · rintro g₆ f v u₆ ⟨rfl, t6, rfl⟩
    have hlen : (if endsT (h.take q) [42] then (h.take q).take ((h.take q).length - 1) else h.take q).length ≤ 1000 := by
      split
      · rw [List.length_take]; omega
      · exact htl
    refine BlF.ret (EvF.rule5 (r := ⟨(if endsT (h.take q) [42] then (h.take q).take ((h.take q).length - 1) else h.take q).reverse, endsT (h.take q) [42], NumText.digitsVal [h.getD q 0], (h.drop (q + 1)).take (h.length - 1 - (q + 1)), endsT h [62]⟩)
      (EvF.revT (EvF.localT nS16_ending rfl) (EvF.neg EvF.int) (L _ (by omega))) (EvF.localB nS16_alone rfl)
      (EvF.intT (EvF.bltin (G.up (u05.tr u₆)) nS16_int N.int rfl) (EvF.itemT (EvF.cellT nS16_head rfl) (EvF.localN nS16_place rfl) hp1 (L _ (by omega))) (by simp) (fun c hc => ?_) (by simp))
      (EvF.cut (EvF.cellT nS16_head rfl) (EvF.addN (EvF.localN nS16_place rfl) (EvF.num 1)) (EvF.subN (EvF.lenT (EvF.bltin (G.up (u05.tr u₆)) nS16_len N.len rfl) (EvF.cellT nS16_head rfl) (L _ (by omega))) (EvF.num 1) (by omega)) (L _ (by omega)) h5 (by omega))
      (EvF.localB nS16_on rfl)) fun g y u hy => hy
    rw [List.mem_singleton] at hc
    subst hc
    have h7 := of_decide_eq_true hp2
    exact (by decide : ∀ c ∈ digs, 48 ≤ c ∧ c ≤ 57) _ h7
end
end Mine

end

section
open PySem PySem.W PyProof.Rows PySem.Calls
set_option Elab.async false
set_option linter.unusedVariables false
set_option maxRecDepth 100000
namespace Mine

/-- what a place beyond the rules gives -/
def noRule : Rule := ⟨[], false, 0, [], false⟩
def RulesL (g : Heap) (v : Value) (rs : List Rule) : Prop := ∃ vs, IsLst g v vs ∧ All2 (fun r v => IsRule g v r) rs vs
theorem RulesL.up {g g' : Heap} {v rs} (x : RulesL g v rs) (u : Up g g') : RulesL g' v rs := let ⟨vs, a, b⟩ := x; ⟨vs, a.up u, b.imp fun _ _ h => h.up u⟩
theorem RulesL.len {g : Heap} {v rs} (x : RulesL g v rs) : ∃ vs, IsLst g v vs ∧ vs.length = rs.length := let ⟨vs, a, b⟩ := x; ⟨vs, a, b.len.symm⟩
def addR (xs : List Int) (at' : Nat) (rs : List Rule) (w : List Nat) (k : Nat) : List Nat :=
  if 0 < takeN xs (at' + k) % (rs.length + 1) then w ++ (rs.getD (takeN xs (at' + k) % (rs.length + 1) - 1) noRule).en else w
def wordA (xs : List Int) (at' : Nat) : List Nat := (if 8 < takeN xs at' % 18 then prefixes.getD (takeN xs at' % 18 - 9) [] else []) ++ letRow (takeN xs (at' + 1) / 4) (1 + takeN xs (at' + 1) % 4)
def lawWord (xs : List Int) (at' : Nat) (rs : List Rule) : List Nat := addR xs at' rs (addR xs at' rs (wordA xs at') 2) 3

def step3 (a b c : List Nat) : Nat → List Nat
  | 0 => a
  | 1 => b
  | _ => c
theorem addR_len {xs : List Int} {at' : Nat} {rs : List Rule} {w : List Nat} {k : Nat} (h : ∀ r ∈ rs, r.en.length ≤ 100) : (addR xs at' rs w k).length ≤ w.length + 100 := by
  unfold addR
  split
  · rename_i hp
    have hlt : takeN xs (at' + k) % (rs.length + 1) - 1 < rs.length := by
      have := Nat.mod_lt (takeN xs (at' + k)) (show 0 < rs.length + 1 by omega)
      omega
    rw [List.length_append, List.getD_eq_getElem?_getD, List.getElem?_eq_getElem hlt]
    have := h _ (List.getElem_mem hlt)
    show _ + (rs[takeN xs (at' + k) % (rs.length + 1) - 1]).en.length ≤ _
    omega
  · omega
theorem wordA_len {xs : List Int} {at' : Nat} : (wordA xs at').length ≤ 10 := by
  unfold wordA
  rw [List.length_append, letRow_len]
  have h1 : ∀ i, i < 9 → (prefixes.getD i []).length ≤ 6 := by decide
  split
  · have := h1 (takeN xs at' % 18 - 9) (by omega)
    omega
  · simp; omega

section
variable {w : World} {cf : Cfg}
theorem c_lword (N : GL cf) (sv rv : Value) (xs : List Int) (at' : Nat) (rs : List Rule) (t : Tok) (hx : xs.length ≤ 1000) (ha : at' ≤ 500) (hr : rs.length ≤ 1000) (hen : ∀ r ∈ rs, r.en.length ≤ 100) :
    Mine.Gives w 2 (.ref (cf.ad 17)) [sv, .int (at' : Nat) t, rv] (fun g => TopL w cf g ∧ IntL g sv xs ∧ RulesL g rv rs) (VT (lawWord xs at' rs)) := by
  have L : ∀ m : Nat, m ≤ 2000 → m ≤ sizeLine := fun m h => by rw [sizeLine_eq]; omega
  refine gives_of ["script", "at", "rules"] (vals := [some sv, some (.int (at' : Nat) t), some rv, none, none, none, none, none]) (fun g p => ⟨p.1.f17, p.1.gd.nolimit⟩) ?_ (by decide +kernel) ndS17 fnS17 4 (by kernel_rfl!) ?_
  · intro fd h1 h2
    obtain ⟨⟩ := fd
    dsimp only at h1 h2
    subst h1 h2
    rfl
  intro A e B g R E ⟨p, hs, hrl⟩
  have G := p.gd
  conv in bodyOf _ => whnf
  have R1 : Room A 1 := R.le (by omega)
  refine BlF.assign (EvF.modN (EvF.call2 (W := VN (takeN xs at')) G nS17__law_take N.take p.f12 R1 (EvF.local nS17_script rfl) Mono.eq (EvF.localN nS17_at rfl) Mono.vi fun g v u ug e1 ⟨t2, e2⟩ => by
    rw [e1, e2]; exact ⟨_, ⟨p.up ug, hs.up ug⟩, c_take N sv xs at' t2 (by omega) (L _ (by omega))⟩) (EvF.num 18) (by decide)) nS17_start ?_
  rintro g₁ y u₁ ⟨t₁, rfl⟩
  refine BlF.assign (EvF.call2 (W := VN (takeN xs (at' + 1))) (G.up u₁) nS17__law_take N.take (p.up u₁).f12 R1 (EvF.local nS17_script rfl) Mono.eq (EvF.addN (EvF.localN nS17_at rfl) (EvF.num 1)) Mono.vi fun g v u ug e1 ⟨t2, e2⟩ => by
    rw [e1, e2]; exact ⟨_, ⟨p.up (u₁.tr ug), hs.up (u₁.tr ug)⟩, c_take N sv xs (at' + 1) t2 (by omega) (L _ (by omega))⟩) nS17_number ?_
  rintro g₂ y u₂ ⟨t₂, rfl⟩
  have u02 := u₁.tr u₂
  have hS : takeN xs at' % 18 < 18 := Nat.mod_lt _ (by decide)
  have hw : wordA xs at' = (if 8 < takeN xs at' % 18 then prefixes.getD (takeN xs at' % 18 - 9) [] else []) ++ letRow (takeN xs (at' + 1) / 4) (1 + takeN xs (at' + 1) % 4) := rfl
  unfold lawWord
  have hwl := wordA_len (xs := xs) (at' := at')
  generalize wordA xs at' = wA at *
  generalize takeN xs at' % 18 = S at *
  generalize takeN xs (at' + 1) = M at *
  have hq : (if 8 < S then prefixes.getD (S - 9) [] else []).length ≤ 10 := by
    rw [hw, List.length_append] at hwl; omega
  refine BlF.assign (EvF.ifE (V := VT (if 8 < S then prefixes.getD (S - 9) [] else [])) (TsF.gtN (EvF.localN nS17_start rfl) (EvF.num 8)) (fun hb => ?_) (fun hb => ?_)) nS17_word ?_
  · have hb : 8 < S := of_decide_eq_true hb
    rw [if_pos hb]
    refine EvF.itemL (k := S - 9) (K := fun g v => ∃ vs, IsLst g v vs ∧ StrsOf prefixes vs) (EvF.callD (n := 1) (EvF.glob (G.up u02) nS17__law_starts N.starts) (p.up u02).f10 EvL.nil R1 fun g vs u e => by
      rw [e]; exact ⟨_, p.up (u02.tr u), c_starts N⟩) (fun g g' v u ⟨vs, a, b⟩ => ⟨vs, a.up u, b⟩) (EvF.subN (EvF.localN nS17_start rfl) (EvF.num 9) (by omega)) (L _ (by omega)) fun g v u ⟨vs, a, b⟩ => ?_
    obtain ⟨y, hy, t, e⟩ := b.item (k := S - 9) (by show S - 9 < 9; omega)
    exact ⟨vs, y, a, hy, t, e⟩
  · have hb : ¬ 8 < S := of_decide_eq_false hb
    rw [if_neg hb]
    exact EvF.strT
  rintro g₃ y u₃ ⟨t₃, rfl⟩
  have u03 := u02.tr u₃
  refine BlF.assign (EvF.addT (EvF.localT nS17_word rfl) (EvF.call2 (n := 1) (W := VT (letRow (M / 4) (1 + M % 4))) (G.up u03) nS17__law_letter_row N.lrow (p.up u03).f13 R1 (EvF.divN (EvF.localN nS17_number rfl) (EvF.num 4) (by decide) (by decide)) Mono.vi (EvF.addN (EvF.num 1) (EvF.modN (EvF.localN nS17_number rfl) (EvF.num 4) (by decide))) Mono.vi
    fun g v u ug ⟨t1, e1⟩ ⟨t2, e2⟩ => by rw [e1, e2]; exact ⟨_, p.up (u03.tr ug), c_letter_row N (M / 4) (1 + M % 4) t1 t2 (by omega)⟩) (by rw [letRow_len]; exact L _ (by omega))) nS17_word ?_
  rintro g₄ y u₄ ⟨t₄, rfl⟩
  rw [← hw]
  have u04 := u03.tr u₄
  refine BlF.for (fun g' v => ∃ (a b c d e f g : Option Value) (t' : Tok), v = [a, b, c, d, e, some (.str (T (addR xs at' rs (addR xs at' rs wA 2) 3)) t'), f, g]) R.handled
    (EvF.tuple (V := fun _ vs => ∃ t1 t2, vs = [.int ((2 : Nat) : Int) t1, .int ((3 : Nat) : Int) t2]) (fun _ _ _ _ x => x) ((EvL.two (EvF.num 2) Mono.vi (EvF.num 3) Mono.vi).weak fun g vs _ ⟨v, u, e, ⟨t1, h1⟩, ⟨t2, h2⟩⟩ => ⟨t1, t2, by rw [e, h1, h2]⟩) (fun g vs ⟨_, _, e⟩ => by rw [e]; exact L _ (by simp))) ?_ ?_
  · rintro g₅ v u₅ ⟨vs, ht, t1, t2, rfl⟩
    refine ⟨2, _, Iter.tuple ht, fun i g' v => ∃ (a c d f : Option Value) (t' : Tok), v = [some sv, some (.int (at' : Nat) t), some rv, a, c, some (.str (T (step3 wA (addR xs at' rs wA 2) (addR xs at' rs (addR xs at' rs wA 2) 3) i)) t'), d, f], ⟨_, _, _, _, t₄, rfl⟩, ?_, ?_⟩
    · rintro i x g₆ v hi hx u₆ ⟨a, c, d, f, t', rfl⟩
      have u06 := u04.tr (u₅.tr u₆)
      have hwx : ∃ wX : List Nat, wX.length ≤ 110 ∧ (step3 wA (addR xs at' rs wA 2) (addR xs at' rs (addR xs at' rs wA 2) 3) i) = wX ∧ step3 wA (addR xs at' rs wA 2) (addR xs at' rs (addR xs at' rs wA 2) 3) (i + 1) = addR xs at' rs wX (i + 2) := by
        match i, hi with
        | 0, _ => exact ⟨wA, by omega, rfl, rfl⟩
        | 1, _ => exact ⟨_, Nat.le_trans (addR_len hen) (by omega), rfl, rfl⟩
      obtain ⟨wX, hwl, e1, e2⟩ := hwx
      obtain ⟨tx, rfl⟩ : ∃ tx, x = .int ((i + 2 : Nat) : Int) tx := by
        match i, hi, hx with
        | 0, _, hx => exact ⟨t1, (Option.some.inj hx).symm⟩
        | 1, _, hx => exact ⟨t2, (Option.some.inj hx).symm⟩
      rw [e1]
      refine ⟨_, AsF.name nS17_k (by simp), fun B' => ?_⟩
      refine BlF.assign (EvF.modN (EvF.call2 (W := VN (takeN xs (at' + (i + 2)))) (G.up u06) nS17__law_take N.take (p.up u06).f12 R1 (EvF.local nS17_script rfl) Mono.eq (EvF.addN (EvF.localN nS17_at rfl) (EvF.localN nS17_k rfl)) Mono.vi fun g v u ug e1 ⟨t2, e2⟩ => by
        rw [e1, e2]; exact ⟨_, ⟨p.up (u06.tr ug), hs.up (u06.tr ug)⟩, c_take N sv xs (at' + (i + 2)) t2 (by omega) (L _ (by omega))⟩)
        (EvF.addN (EvF.lenL (n := rs.length) (EvF.bltin (G.up u06) nS17_len N.len rfl) ((EvF.local nS17_rules rfl).weak fun g v ug e => by subst e; exact (hrl.up (u06.tr ug)).len) (L _ (by omega))) (EvF.num 1)) (by omega)) nS17_pick ?_
      rintro g₇ y u₇ ⟨t₇, rfl⟩
      have hadd : addR xs at' rs wX (i + 2) = if 0 < takeN xs (at' + (i + 2)) % (rs.length + 1) then wX ++ (rs.getD (takeN xs (at' + (i + 2)) % (rs.length + 1) - 1) noRule).en else wX := rfl
      rw [hadd] at e2
      have hlt := Nat.mod_lt (takeN xs (at' + (i + 2))) (show 0 < rs.length + 1 by omega)
      generalize takeN xs (at' + (i + 2)) % (rs.length + 1) = pk at *
      have u07 := u06.tr u₇
      refine BlF.ite1 (TsF.gtN (EvF.localN nS17_pick rfl) (EvF.num 0)) (fun hb => ?_) (fun hb => ?_)
      · have hb : 0 < pk := of_decide_eq_true hb
        rw [if_pos hb] at e2
        have hg : rs[pk - 1]? = some (rs.getD (pk - 1) noRule) := by
          have : pk - 1 < rs.length := by omega
          rw [List.getD_eq_getElem?_getD, List.getElem?_eq_getElem this]; rfl
        have hel := hen _ (List.mem_of_getElem? hg)
        refine BlF.assign (EvF.addT (EvF.localT nS17_word rfl) (EvF.itemTu (k := 0) (K := fun g v => IsRule g v (rs.getD (pk - 1) noRule)) (U := VT (rs.getD (pk - 1) noRule).en) (EvF.itemL (k := pk - 1) (K := fun _ v => v = rv) (EvF.local nS17_rules rfl) Mono.eq (EvF.subN (EvF.localN nS17_pick rfl) (EvF.num 1) hb) (L _ (by omega)) fun g v u e => by
          subst e
          obtain ⟨vs, a, b⟩ := hrl.up (u07.tr u)
          obtain ⟨y, hy, h⟩ := b.at hg
          exact ⟨vs, y, a, hy, h⟩) (fun g g' v u h => h.up u) (EvF.num 0) (L _ (by omega)) fun g v u ⟨s1, s2, s3, h⟩ => ⟨_, _, h, rfl, s1, rfl⟩) (L _ (by omega))) nS17_word ?_
        rintro g₈ y u₈ ⟨t₈, rfl⟩
        exact BlF.nil fun g' u' => BlF.nil fun g'' u'' => ⟨_, _, _, _, t₈, by rw [e2]; rfl⟩
      · have hb : ¬ 0 < pk := of_decide_eq_false hb
        rw [if_neg hb] at e2
        exact BlF.nil fun g' u' => ⟨_, _, _, _, t', by rw [e2]; rfl⟩
    · rintro g₆ v u₆ ⟨a, c, d, f, t', rfl⟩
      exact ⟨_, _, _, _, _, _, _, t', rfl⟩
  · rintro g₅ v u₅ ⟨a, b, c, d, e, f, g, t', rfl⟩
    exact BlF.ret (EvF.localT nS17_word rfl) fun g y u hy => hy
end
end Mine

end

section
open PySem PySem.W PyProof.Rows PySem.Calls
set_option Elab.async false
set_option linter.unusedVariables false
set_option maxRecDepth 100000
namespace Mine

section
variable {w : World} {A : Around} {e : Env} {sc : Scope} {B : Base} {g₀ : Heap} {vals : List (Option Value)} {pos : Pos} {cf : Cfg}
theorem TsF.isNone {l : Expr} {p : Pos} {k : Nat} {V : Heap → Value → Prop} {b : Bool} (hl : EvF w A e sc B vals g₀ l V) (hV : Mono V) (hb : ∀ g v, Up g₀ g → V g v → (v == .none) = b) (hm : behindInMarks .Is (.Constant .none k p) = false := by with_unfolding_all rfl) :
    TsF w A e sc B vals g₀ (.Compare l [.Is] [.Constant .none k p] pos) b :=
  TsF.cmp hl hV EvF.noneC (fun g v u ug hv hu s Q E F h => by
    subst hu
    exact is_none_gen (by rw [hb g v ug hv]; exact h s.toks)) hm
theorem TsF.isSome {l : Expr} {p : Pos} {k : Nat} {V : Heap → Value → Prop} {b : Bool} (hl : EvF w A e sc B vals g₀ l V) (hV : Mono V) (hb : ∀ g v, Up g₀ g → V g v → (v == .none) = !b) (hm : behindInMarks .IsNot (.Constant .none k p) = false := by with_unfolding_all rfl) :
    TsF w A e sc B vals g₀ (.Compare l [.IsNot] [.Constant .none k p] pos) b :=
  TsF.cmp hl hV EvF.noneC (fun g v u ug hv hu s Q E F h => by
    subst hu
    exact isnot_none_gen (by rw [hb g v ug hv, Bool.not_not]; exact h s.toks)) hm
theorem TsF.eqNil {l : Expr} {p : Pos} {b : Bool} {n : Nat} (R : Room A n) (hl : EvF w A e sc B vals g₀ l (fun g v => ∃ vs, IsLst g v vs ∧ vs.isEmpty = b)) (hm : behindInMarks .Eq (.List [] p) = false := by with_unfolding_all rfl) :
    TsF w A e sc B vals g₀ (.Compare l [.Eq] [.List [] p] pos) b :=
  TsF.cmp hl (fun g g' v u ⟨vs, a, h⟩ => ⟨vs, a.up u, h⟩) (EvF.list (V := fun _ vs => vs = []) (fun _ _ _ _ x => x) EvL.nil (fun _ _ e => by rw [e]; exact Nat.zero_le _)) (fun g v u ug ⟨vs, ⟨a, e1, hl⟩, hb⟩ ⟨us, ⟨c, e2, hc⟩, e3⟩ s Q E F h => by
    subst e1 e2 e3
    have hl' : s.heap.IsList a vs.toArray := let ⟨o, ho, r⟩ := hl; ⟨o, F.vis _ _ ho, r⟩
    have hc' : s.heap.IsList c #[] := let ⟨o, ho, r⟩ := hc; ⟨o, F.vis _ _ ho, r⟩
    have hu : A.units < cLine := by have := R.units; omega
    cases vs with
    | nil =>
      subst hb
      exact SeqAt.eq_listAt (e := fun _ => true) hl' hc' rfl hu (fun j h1 _ => absurd h1 (Nat.not_lt_zero _)) (h s.toks)
    | cons x r =>
      subst hb
      exact SeqAt.eq_list_lengthsAt hl' hc' (by simp) hu (h s.toks)) hm
theorem TsF.trueC {k : Nat} {p : Pos} {b : Bool} (he : isTrue (.Constant (.bool b) k p) e (eval (.Constant (.bool b) k p) e) = (do let v ← eval (.Constant (.bool b) k p) e; standAt (Expr.Constant (.bool b) k p).pos; holding [v] (truthy v)) := by rfl) : TsF w A e sc B vals g₀ (.Constant (.bool b) k p) b := TsF.val EvF.bool he
end

/-! ## the law's own stem -/
def least (t : List Nat) : Nat := if isV (t.getD 0 0) then 2 else 3
def lawFits (t : List Nat) (whole : Bool) (r : Rule) : Bool := endsT t r.en && ((whole || !r.al) && decide (((least t : Nat) : Int) ≤ (t.length : Int) - (r.n : Int) + (r.mo.length : Int)))
def lawCut (t : List Nat) (r : Rule) : List Nat := t.take (t.length - r.n) ++ r.mo
/-- the law's rounds; none: the rounds are not enough -/
def lawGo (rs : List Rule) : Nat → List Nat → Bool → Option (Option (List Nat))
  | 0, _, _ => none
  | n + 1, t, whole => if hasV t then
      (match rs.find? (lawFits t whole) with
        | none => some (some t)
        | some r => if r.n = 0 then some none else if r.on then lawGo rs n (lawCut t r) false else some (some (lawCut t r)))
    else some none
def VO (o : Option (List Nat)) (_ : Heap) (v : Value) : Prop := match o with | none => v = .none | some l => ∃ t, v = .str (T l) t
def IsOr (g : Heap) (v : Value) (o : Option Rule) : Prop := match o with | none => v = .none | some r => IsRule g v r
theorem IsOr.up {g g' : Heap} {v o} (x : IsOr g v o) (u : Up g g') : IsOr g' v o := by
  cases o with
  | none => exact x
  | some r => exact IsRule.up (r := r) x u
theorem IsOr.isNone {g : Heap} {v o} (x : IsOr g v o) : (v == Value.none) = o.isNone := by
  cases o with
  | none => rw [show v = .none from x]; rfl
  | some r => obtain ⟨_, _, _, a, e, _⟩ := x; subst e; rfl
theorem isV_eq (c : Nat) : isV c = decide (c ∈ vows) := rfl
theorem isEmpty_of_len {α β : Type} {a : List α} {b : List β} (h : a.length = b.length) : a.isEmpty = b.isEmpty := by
  cases a <;> cases b
  · rfl
  · cases h
  · cases h
  · rfl
theorem hasV_nil {t : List Nat} : (t.filter isV).isEmpty = !hasV t := by
  unfold hasV
  induction t with
  | nil => rfl
  | cons c r ih =>
    rw [List.filter_cons, List.any_cons]
    cases isV c <;> simp_all
theorem range_filter (t : List Nat) : ((List.range t.length).filter fun i => isV (t.getD i 0)).length = (t.filter isV).length := by
  have : t = (List.range t.length).map fun i => t.getD i 0 := by
    apply List.ext_getElem (by simp)
    intro i h1 h2
    simp [h1]
  conv => rhs; rw [this, List.filter_map, List.length_map]
  rfl

section
variable {w : World} {cf : Cfg}
theorem c_lstem (N : GL cf) (rv : Value) (rs : List Rule) (l : List Nat) (t : Tok) (n : Nat) (res : Option (List Nat)) (hr : rs.length ≤ 1000) (hen : ∀ r ∈ rs, r.en.length ≤ 100 ∧ r.mo.length ≤ 100 ∧ r.n ≤ r.en.length) (hl : l.length + n * 100 ≤ 100000)
    (hres : lawGo rs n (stripPrefix l) true = some res) : Mine.Gives w 2 (.ref (cf.ad 18)) [rv, .str (T l) t] (fun g => TopL w cf g ∧ RulesL g rv rs) (VO res) := by
  have L : ∀ m : Nat, m ≤ 1000000 → m ≤ sizeLine := fun m h => by rw [sizeLine_eq]; omega
  refine gives_of ["rules", "text"] (vals := [some rv, some (.str (T l) t), none, none, none, none, none]) (fun g p => ⟨p.1.f18, p.1.gd.nolimit⟩) ?_ (by decide +kernel) ndS18 fnS18 2 (by kernel_rfl!) ?_
  · intro fd h1 h2
    obtain ⟨⟩ := fd
    dsimp only at h1 h2
    subst h1 h2
    rfl
  intro A e B g R E ⟨p, hrl⟩
  have G := p.gd
  conv in bodyOf _ => whnf
  have R1 : Room A 1 := R.le (by omega)
  have hsl : (stripPrefix l).length ≤ l.length := by
    have go : ∀ ps, (stripGo l ps).length ≤ l.length := fun ps => by
      induction ps with
      | nil => exact Nat.le_refl _
      | cons q r ih =>
        unfold stripGo
        split
        · rw [List.length_drop]; omega
        · exact ih
    exact go prefixes
  have hpl : ∀ (i : Nat) (q : List Nat), prefixes[i]? = some q → q.length ≤ 6 := by
    intro i q h
    exact (by decide : ∀ q ∈ prefixes, q.length ≤ 6) q (List.mem_of_getElem? h)
  refine BlF.for (fun g' v => ∃ (t' : Tok) (o : Option Value), v = [some rv, some (.str (T (stripPrefix l)) t'), o, none, none, none, none]) R.handled
    (EvF.callD (n := 1) (V := fun _ vs => vs = []) (W := fun g v => ∃ vs, IsLst g v vs ∧ StrsOf prefixes vs) (EvF.glob G nS18__law_starts N.starts) p.f10 EvL.nil R1 fun g vs u e => by
      rw [e]; exact ⟨_, p.up u, c_starts N⟩) ?_ ?_
  · rintro g₁ v u₁ ⟨vs, ht, hs⟩
    have hlen : prefixes.length = vs.length := All2.len hs
    refine ⟨vs.length, _, Iter.list ht, fun i _ v => ∃ o, v = [some rv, some (.str (T l) t), o, none, none, none, none] ∧ stripPrefix l = stripGo l (prefixes.drop i), ⟨none, rfl, rfl⟩, ?_, ?_⟩
    · rintro i x g₂ v hi hx u₂ ⟨o, rfl, hj⟩
      obtain ⟨q, hq, t₂, rfl⟩ := All2.get hs hx
      refine ⟨_, AsF.name nS18_start (by simp), fun B' => ?_⟩
      have hdrop : prefixes.drop i = q :: prefixes.drop (i + 1) := by
        have h1 : i < prefixes.length := by omega
        rw [List.drop_eq_getElem_cons h1]
        rw [List.getElem?_eq_getElem h1] at hq
        cases hq; rfl
      rw [hdrop] at hj
      have hj : stripPrefix l = if startsT l q then l.drop q.length else stripGo l (prefixes.drop (i + 1)) := hj
      have hq6 := hpl i q hq
      refine BlF.ite1 (TsF.val (EvF.startswith (EvF.localT nS18_text rfl) (EvF.localT nS18_start rfl))) ?_ ?_
      · intro hb
        rw [if_pos hb] at hj
        refine BlF.assign (EvF.cutFrom (EvF.localT nS18_text rfl) (EvF.lenT (EvF.bltin (G.up (u₁.tr u₂)) nS18_len N.len rfl) (EvF.localT nS18_start rfl) (L _ (by omega))) (L _ (by omega))) nS18_text ?_
        rintro g₃ y u₃ ⟨t₃, rfl⟩
        exact BlF.brk fun g₄ u₄ => ⟨t₃, _, by rw [hj]; rfl⟩
      · intro hb
        rw [hb] at hj
        exact BlF.nil fun g u => ⟨_, rfl, hj⟩
    · rintro g₂ v u₂ ⟨o, rfl, hj⟩
      rw [← hlen, List.drop_length] at hj
      exact ⟨t, o, by rw [hj]; rfl⟩
  rintro g₁ v u₁ ⟨t₁, o₁, rfl⟩
  generalize stripPrefix l = s0 at *
  refine BlF.assign EvF.bool nS18_whole ?_
  rintro g₂ y u₂ rfl
  have u02 := u₁.tr u₂
  refine BlF.while (fun m g' v => ∃ (s' : List Nat) (ts : Tok) (wh : Bool) (o2 o4 o5 o6 : Option Value), v = [some rv, some (.str (T s') ts), o2, some (.bool wh), o4, o5, o6] ∧ lawGo rs m s' wh = some res ∧ s'.length + m * 100 ≤ 100000)
    (fun g' v => False) ?_ n (fun g' _ => ⟨_, t₁, true, _, _, _, _, rfl, hres, by omega⟩) (fun _ _ _ h => h.elim)
  rintro m g₃ v u₃ ⟨s', ts, wh, o2, o4, o5, o6, rfl, hgo, hlen⟩
  have u03 := u02.tr u₃
  refine ⟨true, TsF.trueC, fun _ => ?_, fun h => by cases h⟩
  cases m with
  | zero => cases hgo
  | succ m =>
  have hgo : (if hasV s' then (match rs.find? (lawFits s' wh) with
        | none => some (some s')
        | some r => if r.n = 0 then some none else if r.on then lawGo rs m (lawCut s' r) false else some (some (lawCut s' r)))
    else some none) = some res := hgo
  have hsz : s'.length ≤ sizeLine := L _ (by omega)
  refine BlF.ite1 (b := !hasV s') (TsF.eqNil R1 ((EvF.listComp 1 R.handled (EvF.localT nS18_text rfl) [none, none] (by kernel_rfl!) (by decide +kernel) (by decide +kernel) (by decide +kernel) (by decide +kernel) (by decide +kernel)
      (Wl := fun _ ys => ys.length = (s'.filter isV).length) ?_).weak fun g v _ ⟨ys, a, h⟩ => ⟨ys, a, ?_⟩)) ?_ ?_
  · rintro g₄ v u₄ ⟨t₄, rfl⟩
    refine ⟨s'.length, _, fun i => isV (s'.getD i 0), fun i _ y => True, fun i _ _ _ _ h => h, Iter.str, hsz, ?_, ?_⟩
    · rintro cenv B' i y g₂ E' hi ⟨u', rfl⟩ ug
      exact ⟨.inr ⟨_, rfl, TsF.inT1 (EvF.localT (i := 1) (by decide +kernel) rfl) (EvF.strT (l := vows))⟩, fun _ => (EvF.local (i := 1) (by decide +kernel) rfl).weak fun _ _ _ e => trivial⟩
    · intro g' ys ug h
      rw [← range_filter]
      exact h.len.symm
  · rw [← hasV_nil]
    exact isEmpty_of_len h
  · intro hb
    have hb : hasV s' = false := by simpa using hb
    rw [hb] at hgo
    cases hgo
    exact BlF.ret EvF.noneC fun g y u h => h
  intro hb
  have hb : hasV s' = true := by simpa using hb
  rw [if_pos hb] at hgo
  have hpos : 0 < s'.length := by
    cases s' with
    | nil => cases hb
    | cons _ _ => simp
  refine BlF.assign (EvF.ifE (V := VN (least s')) (TsF.inT1 (EvF.itemT (EvF.localT nS18_text rfl) (EvF.num 0) hpos hsz) (EvF.strT (l := vows))) (fun hv => ?_) (fun hv => ?_)) nS18_least ?_
  · have : least s' = 2 := if_pos hv
    rw [this]; exact EvF.num 2
  · have : least s' = 3 := by unfold least; rw [isV_eq, hv]; rfl
    rw [this]; exact EvF.num 3
  rintro g₄ y u₄ ⟨t₄, rfl⟩
  refine BlF.assign EvF.noneC nS18_found ?_
  rintro g₅ y u₅ rfl
  have u05 := u03.tr (u₄.tr u₅)
  refine BlF.for (fun g' v => ∃ (z : Value) (o6 : Option Value), v = [some rv, some (.str (T s') ts), o2, some (.bool wh), some (.int ((least s' : Nat) : Int) t₄), some z, o6] ∧ IsOr g' z (rs.find? (lawFits s' wh))) R.handled
    (EvF.local nS18_rules rfl) ?_ ?_
  · rintro g₆ v u₆ e6
    subst e6
    obtain ⟨vs, hls, hall⟩ := hrl.up (u05.tr u₆)
    have hlv := hall.len
    refine ⟨vs.length, _, Iter.list hls, fun i g' v' => ∃ (z : Value) (o6 : Option Value), v' = [some v, some (.str (T s') ts), o2, some (.bool wh), some (.int ((least s' : Nat) : Int) t₄), some z, o6] ∧ IsOr g' z ((rs.take i).find? (lawFits s' wh)), ⟨.none, _, rfl, rfl⟩, ?_, ?_⟩
    · rintro i x g₇ v' hi hx u₇ ⟨z, o6', rfl, hz⟩
      obtain ⟨r, hri, hrx⟩ := All2.get hall hx
      obtain ⟨q1, q2, q3⟩ := hen r (List.mem_of_getElem? hri)
      have htake : (rs.take (i + 1)).find? (lawFits s' wh) = ((rs.take i).find? (lawFits s' wh)).or (if lawFits s' wh r then some r else none) := by
        rw [List.take_add_one, hri, List.find?_append]
        congr 1
        show List.find? _ [r] = _
        rw [List.find?_singleton]
      refine ⟨_, AsF.name nS18_rule (by simp), fun B' => ?_⟩
      have u07 := u05.tr (u₆.tr u₇)
      have hrx7 := hrx.up u₇
      have item : ∀ (e' : Env) (B' : Base) (vals' : List (Option Value)) (k : Nat) (U : Heap → Value → Prop) (px p p' : Pos) (g₀ : Heap), Up g₆ g₀ → at' vals' 6 = some x → k ≤ 4 →
          (∀ g t1 t2 t3 vs, vs = [.str (T r.en) t1, .bool r.al, .int (r.n : Int) t2, .str (T r.mo) t3, .bool r.on] → ∃ y, vs[k]? = some y ∧ U g y) →
          EvF w A e' (scopeOf (stt 18)) B' vals' g₀ (.Subscript (.Name "rule" px) (.Constant (.int ((k : Nat) : Int)) 0 p) p') U := fun e' B' vals' k U px p p' g₀ u0 hv hk hU =>
        EvF.itemTu (k := k) (K := fun _ v => v = x) (EvF.local nS18_rule hv) Mono.eq (EvF.num k) (L _ (by omega)) fun g v u e => by
          subst e
          obtain ⟨t1, t2, t3, h⟩ := hrx.up (u0.tr u)
          obtain ⟨y, hy, hU⟩ := hU g t1 t2 t3 _ rfl
          exact ⟨_, y, h, hy, hU⟩
      refine BlF.ite1 (b := ((rs.take i).find? (lawFits s' wh)).isNone && lawFits s' wh r) (TsF.and (TsF.isNone (EvF.local nS18_found rfl) Mono.eq fun g v u e => by rw [e]; exact hz.isNone) fun _ =>
        TsF.and (TsF.val (EvF.endswith (EvF.localT nS18_text rfl) (item _ _ _ 0 (VT r.en) _ _ _ _ u₇ rfl (by omega) fun g t1 t2 t3 vs e => by subst e; exact ⟨_, rfl, t1, rfl⟩))) fun _ =>
        TsF.and (TsF.or (TsF.localB nS18_whole rfl) fun _ => TsF.or1 (TsF.not (TsF.val (item _ _ _ 1 (VB r.al) _ _ _ _ u₇ rfl (by omega) fun g t1 t2 t3 vs e => by subst e; exact ⟨_, rfl, rfl⟩)))) fun _ =>
        TsF.and1 (TsF.geI (EvF.addI (EvF.subI (EvF.lenT (EvF.bltin (G.up u07) nS18_len N.len rfl) (EvF.localT nS18_text rfl) hsz) (item _ _ _ 2 (VN r.n) _ _ _ _ u₇ rfl (by omega) fun g t1 t2 t3 vs e => by subst e; exact ⟨_, rfl, t2, rfl⟩))
          (EvF.lenT (EvF.bltin (G.up u07) nS18_len N.len rfl) (item _ _ _ 3 (VT r.mo) _ _ _ _ u₇ rfl (by omega) fun g t1 t2 t3 vs e => by subst e; exact ⟨_, rfl, t3, rfl⟩) (L _ (by omega)))) (EvF.localN nS18_least rfl))) ?_ ?_
      · intro hb
        rw [Bool.and_eq_true] at hb
        refine BlF.assign (EvF.local nS18_rule rfl) nS18_found ?_
        rintro g₈ y u₈ e8
        subst e8
        refine BlF.nil fun g' u' => BlF.nil fun g'' u'' => ⟨_, _, rfl, ?_⟩
        rw [htake, Option.isNone_iff_eq_none.mp hb.1, hb.2]
        exact IsRule.up (r := r) hrx7 (u₈.tr (u'.tr u''))
      · intro hb
        refine BlF.nil fun g' u' => ⟨_, _, rfl, ?_⟩
        have : (rs.take (i + 1)).find? (lawFits s' wh) = (rs.take i).find? (lawFits s' wh) := by
          rw [htake]
          cases hc : (rs.take i).find? (lawFits s' wh) with
          | some q => rfl
          | none =>
            rw [hc] at hb
            have hb : lawFits s' wh r = false := hb
            rw [hb]; rfl
        rw [this]
        exact hz.up u'
    · rintro g₇ v' u₇ ⟨z, o6', rfl, hz⟩
      rw [← hlv, List.take_length] at hz
      exact ⟨z, o6', rfl, hz⟩
  rintro g₆ v u₆ ⟨z, o6', rfl, hz⟩
  have u06 := u05.tr u₆
  refine BlF.ite1 (b := (rs.find? (lawFits s' wh)).isNone) (TsF.isNone (EvF.local nS18_found rfl) Mono.eq fun g v u e => by rw [e]; exact hz.isNone) ?_ ?_
  · intro hn
    rw [Option.isNone_iff_eq_none.mp hn] at hgo
    cases hgo
    exact BlF.ret (EvF.localT nS18_text rfl) fun g y u h => h
  intro hn
  cases hf : rs.find? (lawFits s' wh) with
  | none => rw [hf] at hn; cases hn
  | some r =>
  rw [hf] at hgo hz
  have hgo : (if r.n = 0 then some none else if r.on then lawGo rs m (lawCut s' r) false else some (some (lawCut s' r))) = some res := hgo
  have hrx : IsRule g₆ z r := hz
  obtain ⟨q1, q2, q3⟩ := hen r (List.mem_of_find?_eq_some hf)
  have hfit := List.find?_some hf
  have hnle : r.n ≤ s'.length := by
    have : endsT s' r.en = true := by
      unfold lawFits at hfit
      rw [Bool.and_eq_true] at hfit
      exact hfit.1
    unfold endsT at this
    rw [Bool.and_eq_true, decide_eq_true_eq] at this
    omega
  have item : ∀ (vals' : List (Option Value)) (k : Nat) (U : Heap → Value → Prop) (px p p' : Pos) (g₀ : Heap), Up g₆ g₀ → at' vals' 5 = some z → k ≤ 4 →
      (∀ g t1 t2 t3 vs, vs = [.str (T r.en) t1, .bool r.al, .int (r.n : Int) t2, .str (T r.mo) t3, .bool r.on] → ∃ y, vs[k]? = some y ∧ U g y) →
      EvF w A e (scopeOf (stt 18)) B vals' g₀ (.Subscript (.Name "found" px) (.Constant (.int ((k : Nat) : Int)) 0 p) p') U := fun vals' k U px p p' g₀ u0 hv hk hU =>
    EvF.itemTu (k := k) (K := fun _ v => v = z) (EvF.local nS18_found hv) Mono.eq (EvF.num k) (L _ (by omega)) fun g v u e => by
      subst e
      obtain ⟨t1, t2, t3, h⟩ := hrx.up (u0.tr u)
      obtain ⟨y, hy, hU⟩ := hU g t1 t2 t3 _ rfl
      exact ⟨_, y, h, hy, hU⟩
  refine BlF.ite1 (TsF.eqN (item _ 2 (VN r.n) _ _ _ _ Up.rfl' rfl (by omega) fun g t1 t2 t3 vs e => by subst e; exact ⟨_, rfl, t2, rfl⟩) (EvF.num 0)) ?_ ?_
  · intro h0
    rw [if_pos (by simpa using h0)] at hgo
    cases hgo
    exact BlF.ret EvF.noneC fun g y u h => h
  intro h0
  rw [if_neg (by simpa using h0)] at hgo
  have hcl : (lawCut s' r).length ≤ s'.length + 100 := by
    unfold lawCut; rw [List.length_append, List.length_take]; omega
  refine BlF.assign (EvF.addT (EvF.cutTo (EvF.localT nS18_text rfl) (EvF.subN (EvF.lenT (EvF.bltin (G.up u06) nS18_len N.len rfl) (EvF.localT nS18_text rfl) hsz) (item _ 2 (VN r.n) _ _ _ _ Up.rfl' rfl (by omega) fun g t1 t2 t3 vs e => by subst e; exact ⟨_, rfl, t2, rfl⟩) hnle) hsz)
    (item _ 3 (VT r.mo) _ _ _ _ Up.rfl' rfl (by omega) fun g t1 t2 t3 vs e => by subst e; exact ⟨_, rfl, t3, rfl⟩) (L _ (by rw [List.length_take]; omega))) nS18_text ?_
  rintro g₇ y u₇ ⟨t₇, rfl⟩
  have hct : s'.take (s'.length - r.n) ++ r.mo = lawCut s' r := rfl
  rw [hct]
  refine BlF.assign EvF.bool nS18_whole ?_
  rintro g₈ y u₈ rfl
  refine BlF.ite1 (TsF.not (TsF.val (item _ 4 (VB r.on) _ _ _ _ (u₇.tr u₈) rfl (by omega) fun g t1 t2 t3 vs e => by subst e; exact ⟨_, rfl, rfl⟩))) ?_ ?_
  · intro hon
    have hon : r.on = false := by simpa using hon
    rw [hon] at hgo
    have hgo : some (some (lawCut s' r)) = some res := hgo
    cases hgo
    exact BlF.ret (EvF.localT nS18_text rfl) fun g y u h => h
  · intro hon
    have hon : r.on = true := by simpa using hon
    rw [if_pos hon] at hgo
    exact BlF.nil fun g' u' => ⟨m, by omega, _, _, _, _, _, _, _, rfl, hgo, by omega⟩
end
end Mine

end

section
open PySem PySem.W PyProof.Rows PySem.Calls
set_option Elab.async false
set_option linter.unusedVariables false
set_option maxRecDepth 100000
namespace Mine

section
variable {w : World} {A : Around} {e : Env} {sc : Scope} {B : Base} {g₀ : Heap} {vals : List (Option Value)} {pos : Pos} {cf : Cfg}
/-- a thing of the known part is called -/
theorem EvF.callK {f : Str} {p : Pos} {ts : List Expr} {a : Addr} {V : Heap → List Value → Prop} {W : Heap → Value → Prop} {n : Nat} (hf : EvF w A e sc B vals g₀ (.Name f p) (fun _ v => v = .ref a)) (kin : cf.K.In g₀) (hk : keepIn cf.K (.ref a) = true)
    (ha : EvL w A e sc B vals g₀ pos ts V) (R : Room A n)
    (hc : ∀ g vs, Up g₀ g → V g vs → ∃ P, P g ∧ Mine.Gives w n (.ref a) vs P W)
    (hp : (backTo pos (starEach ts e)).any (·.1) = false := by rfl) :
    EvF w A e sc B vals g₀ (.Call (.Name f p) ts [] pos) W := .mk fun s g Q E u F h => by
  refine wpAny_Call_NameR (hf.run s g _ E u F fun v g₁ h₁ tk₁ u₁ ug₁ F₁ hv => ?_)
  subst hv
  refine callWith_of (P := cf.K.In) (by rw [hp]; rfl) (keeps_K hk) (evalArgs_any hp (ha.run { s with heap := h₁, toks := tk₁ } g₁ _ E (u.tr ug₁) F₁ fun vs g₂ h₂ tk₂ u₂ ug₂ F₂ hvs => ⟨kin.keeps (((u.tr ug₁).tr ug₂).tr F₂.vis), ?_⟩))
  obtain ⟨P, hP, C⟩ := hc g₂ vs ((u.tr ug₁).tr ug₂) hvs
  exact Mine.Gives.use (s := { s with heap := h₂, toks := tk₂ }) C R F₂ hP fun v g₃ h₃ tk₃ u₃ ug₃ F₃ hv => h v g₃ h₃ tk₃ ((u₁.tr u₂).tr u₃) ((ug₁.tr ug₂).tr ug₃) F₃ hv

theorem gives_make (N : GN cf) (tbl : List Nat) (t : Tok) (rs : List Rule) (hl : tbl.length ≤ 50000) (hlines : ∀ ln ∈ splitT tbl 10, ln.length ≤ 640) (hrs : readLines (splitT tbl 10) = some rs) :
    Mine.Gives w 5 (.ref cf.C) [.str (T tbl) t] (TopA cf) (fun g v => ∃ x, v = .ref x ∧ StemAt cf w g x (bkOf rs)) := .mk fun A s R hs g RA ug h0 h1 p k => by
  refine c_make N RA ug h0 h1 p hl hlines (fun rs' hrs' x g' h' tk u1 u2 u3 h4 st => ?_) (fun z => by rw [hrs] at z; cases z)
  rw [hrs] at hrs'
  cases hrs'
  exact k _ g' h' tk u1 u2 u3 h4 ⟨x, rfl, st⟩
end

section
variable {w : World} {cf : Cfg}
/-- a stemmer's own method, called through a name -/
theorem EvF.stemOn {A : Around} {e : Env} {sc : Scope} {B : Base} {g₀ : Heap} {vals : List (Option Value)} {pos : Pos} {o y : Expr} {p : Pos} {x : Addr} {bk : Nat → List Rule} {l : List Nat} {pl : Sem Bool} (N : GN cf) (q : TopA cf g₀) (st : StemAt cf w g₀ x bk) (R : Room A 2)
    (ho : EvF w A e sc B vals g₀ o (fun _ v => v = .ref x)) (hy : EvF w A e sc B vals g₀ y (VT l)) (n : Nat) (res : List Nat) (M : Nat) (hb : ∀ c, ∀ r ∈ bk c, r.mo.length ≤ M ∧ r.en.length ≤ M) (hbl : ∀ c, (bk c).length ≤ M) (hl : l.length + n * M + M ≤ sizeLine)
    (hres : stemOf bk n l = some res)
    (h1 : starEach [y] e = (false, eval y e) :: starEach [] e := by rfl) (hp : (backTo pos (starEach [y] e)).any (·.1) = false := by rfl)
    (he : eval (.Call (.Attribute o "stem" p) [y] [] pos) e = (do
      let ov ← eval o e
      standAt p.atName
      let (f, first) ← holding [ov] (getMethod ov "stem" pl)
      callWith pos f first (backTo pos (starEach [y] e)) []) := by rfl) :
    EvF w A e sc B vals g₀ (.Call (.Attribute o "stem" p) [y] [] pos) (VT res) := by
  obtain ⟨d, ⟨dx, es, nn, i1, i2, i3, i4, i5, i6, i7⟩, hd, hr⟩ := id st.at_
  exact EvF.callM N q.kin ho N.k4 N.t4 q.m4 ⟨dx, es, nn, i1, i2, i7⟩ (EvL.one hy Mono.vs h1) R (fun g vs u ⟨v, e1, t', e2⟩ => ⟨fun g => TopA cf g ∧ StemAt cf w g x bk, ⟨q.up u, st.up u⟩, by rw [e1, e2]; exact c_stem N x bk l t' n res M hb hbl hl hres⟩) hp he

theorem c_sstem (N : GL cf) (l : List Nat) (t : Tok) (n : Nat) (res : List Nat) (M : Nat) (hb : ∀ c, ∀ r ∈ stdBk c, r.mo.length ≤ M ∧ r.en.length ≤ M) (hbl : ∀ c, (stdBk c).length ≤ M) (hl : l.length + n * M + M ≤ sizeLine)
    (hres : stemOf stdBk n l = some res) : Mine.Gives w 3 (.ref (cf.ad 7)) [.str (T l) t] (TopL w cf) (VT res) := by
  refine gives_of ["word"] (vals := [some (.str (T l) t)]) (fun g p => ⟨p.f7, p.gd.nolimit⟩) ?_ (by decide +kernel) ndS7 fnS7 1 (by kernel_rfl!) ?_
  · intro fd h1 h2
    obtain ⟨⟩ := fd
    dsimp only at h1 h2
    subst h1 h2
    rfl
  intro A e B g R E p
  conv in bodyOf _ => whnf
  exact BlF.ret (EvF.stemOn N.toGN p.toTopA p.stdS R (EvF.glob p.gd nS7__standard N.std) (EvF.localT nS7_word rfl) n res M hb hbl hl hres) fun g y u hy => hy
end
end Mine

end

section
open PySem PySem.W PyProof.Rows PySem.Calls
set_option Elab.async false
set_option linter.unusedVariables false
set_option maxRecDepth 100000
namespace Mine

section
variable {M : Model} {A : Around} {E : Value → Shared → Prop} {s : Shared}
theorem looks_madeW {base h : Heap} {env : Env} {outer : List Env} {L e : Addr} {cls : Value} {args : List Value} {Q : Unit → Shared → Prop}
    (hfr : A.frames = some (env :: outer)) (hf : env.frame = some L) (hkb : base.StaysIn h) (hl : h.FunFrames base (env :: outer)) (hx : Heap.MadeExcOf h s.heap e cls args)
    (hQ : ∀ h' t, Heap.HeldW base (env :: outer) e cls (.ref t) L h' → s.heap.UpToSlots h' → Q () { s with heap := h' }) : wpAny M A (noteFrame (.ref e) env) Q E s := by
  obtain ⟨t, he, htn, ht⟩ := hx.there
  have fresh : ∀ b, h.get? b = none → base.get? b = none := fun b hb => by
    cases hq : base.get? b with
    | none => rfl
    | some o' => have := hkb b o' hq; rw [hb] at this; cases this
  unfold noteFrame
  simp only [hf]
  refine wpAny_bind (wpAny_field he rfl (x := .none) rfl ?_)
  rw [if_neg (by decide)]
  refine wpAny_entryW (a0 := .ref t) hfr (hl.of_keeps fun b o hb _ => ⟨o, hx.keeps b o hb, rfl⟩) hf he (fun b o hb => hx.keeps b o (hkb b o hb)) (fresh e hx.new) rfl (by simp) rfl fun h' hN => ?_
  obtain ⟨k1, k2, k3, k4⟩ := hN
  exact hQ h' t ⟨k1, fresh e hx.new, k2, k3⟩ k4
theorem setFlight_atW {base : Heap} {l : List Env} {e : Addr} {cls a0 fl : Value} {f : Option Addr} {Q : Unit → Shared → Prop}
    (hkb : base.StaysIn s.heap) (hl : s.heap.FunFrames base l) (ht : s.heap.TracedAtW base e cls a0 fl)
    (h : ∀ h', base.StaysIn h' → h'.FunFrames base l → h'.TracedAtW base e cls a0 (f.elim Value.none fun f => rawInt f) → (∀ b o, s.heap.get? b = some o → (∀ vs, o.data ≠ .fields vs) → h'.get? b = some o) → Q () { s with heap := h' }) :
    wpAny M A (setFlight (.ref e) f) Q E s := by
  obtain ⟨oe, vs, T, oT, ts, he, hcls, hd, h1, hnT, hTe, hT, hdT, h3⟩ := ht
  have hsz3 : 3 < ts.size := (Array.getElem?_eq_some_iff.mp h3).1
  have other : ∀ b, b ≠ T → (s.heap.update T (Obj.mapFields (·.setIfInBounds 3 (f.elim Value.none fun f => rawInt f)))).get? b = s.heap.get? b :=
    fun b hb => Heap.get?_update_other _ _ (Ne.symm hb)
  have noRecord : ∀ b o, s.heap.get? b = some o → (∀ vs, o.data ≠ .fields vs) → b ≠ T := fun b o hb hnf q => by
    rw [q, hT] at hb; injection hb with hb; subst hb; exact hnf ts hdT
  unfold setFlight
  refine wpAny_bind (wpAny_field he hd h1 ?_)
  rw [if_pos (show (Value.ref T != Value.none) = true from by simp)]
  refine wpAny_setField hT hdT hsz3 (h _ (fun b o hbo => (other b fun q => by rw [q, hnT] at hbo; cases hbo).trans (hkb b o hbo))
    (hl.of_keeps fun b o hb hnf => ⟨o, (other b (noRecord b o hb hnf)).trans hb, rfl⟩) ?_ fun b o hb hnf => (other b (noRecord b o hb hnf)).trans hb)
  exact ⟨oe, vs, T, _, _, (other e (Ne.symm hTe)).trans he, hcls, hd, h1, hnT, hTe, Heap.get?_update_self _ hT (Obj.isFreed_of_fields (Obj.data_mapFields hdT _)), Obj.data_mapFields hdT _, by simp [hsz3]⟩
theorem cameBack_heldW {base : Heap} {l : List Env} {env : Env} {e L : Addr} {cls a0 : Value} (hf : env.frame = some L) (hh : Heap.HeldW base l e cls a0 L s.heap)
    (hQ : ∀ h', Heap.HeldW base l e cls a0 L h' → s.heap.UpToSlots h' → E (.ref e) { s with heap := h' }) : cameBackBy M A env E (.ref e) s := by
  obtain ⟨f1, f2, f3, f4⟩ := hh
  obtain ⟨oe, vs, T, oT, ts, he, hcls, hd, h1, hnT, hTe, hT, hdT, h3⟩ := id f4
  unfold cameBackBy
  refine wpAny_bind (wpAny_field he hd h1 ?_)
  rw [if_neg (show ¬ (Value.ref T == Value.none) = true from by simp)]
  rw [hf]
  exact setFlight_atW (f := some L) f1 f3 f4 fun h' k1 k2 k3 k4 => hQ h' ⟨k1, f2, k2, k3⟩ fun b o hb hn => ⟨o.slots, k4 b o hb hn⟩
theorem leaves_heldW {base : Heap} {env : Env} {outer : List Env} {L e : Addr} {cls a0 : Value} {Q : Unit → Shared → Prop} (hf : env.frame = some L)
    (hh : Heap.HeldW base (env :: outer) e cls a0 L s.heap) (hQ : ∀ h', Heap.FlyingW base outer e cls a0 h' → s.heap.UpToSlots h' → Q () { s with heap := h' }) : wpAny M A (leaving env (.ref e)) Q E s := by
  unfold leaving
  refine wpAny_bind (wpAny_noteFrame_againW hf hh.2.2.2 ?_)
  refine wpAny_landsW hh fun h' hfl u => ?_
  obtain ⟨k1, k2, ⟨_, _, k3⟩, k4⟩ := hfl
  exact hQ h' ⟨k1, k2, k3, k4⟩ u
end

theorem FlyingW.keeps {base h h' : Heap} {l : List Env} {e : Addr} {cls a0 : Value} (x : Heap.FlyingW base l e cls a0 h) (u : Up h h') : Heap.FlyingW base l e cls a0 h' :=
  let ⟨k1, k2, k3, oe, vs, T, oT, ts, he, hc, hd, h1, hn, hTe, hT, r⟩ := x
  ⟨fun b o z => u b o (k1 b o z), k2, k3.of_keeps fun b o z _ => ⟨o, u b o z, rfl⟩, oe, vs, T, oT, ts, u _ _ he, hc, hd, h1, hn, hTe, u _ _ hT, r⟩
theorem funFrames_base {h b1 b2 : Heap} {l : List Env} (hl : h.FunFrames b1 l) (h2 : ∀ L ∈ l.filterMap (·.frame), b2.get? L = none) : h.FunFrames b2 l := by
  induction l with
  | nil => trivial
  | cons env rest ih =>
    obtain ⟨hk, ⟨L, o, hf, hn, ho, hd⟩, hr⟩ := hl
    rw [List.filterMap_cons, hf] at h2
    exact ⟨hk, ⟨L, o, hf, h2 L (.head _), ho, hd⟩, ih hr fun L m => h2 L (.tail _ m)⟩

/-- some frames' slots are set -/
theorem Fz.slots {e : Env} {sc : Scope} {B : Base} {g h h' : Heap} {vals : List (Option Value)} (S : List Addr) (F : Fz e sc B g h vals) (k : ∀ b o, b ∉ S → h.get? b = some o → h'.get? b = some o) (us : h.UpToSlots h')
    (hS : ∀ b ∈ S, B.h.get? b = none ∧ g.get? b = none ∧ ∃ o, h.get? b = some o ∧ ∀ vs, o.data ≠ .fields vs) (hc : ∀ b ∈ e.cells.map (·.2), b ∉ S) : Fz e sc B g h' vals := by
  have inn : ∀ b, h.get? b ≠ none → h'.get? b ≠ none := fun b x => by
    by_cases m : b ∈ S
    · obtain ⟨_, _, o, ho, hf⟩ := hS b m
      obtain ⟨sl, e1⟩ := us b o ho hf
      rw [e1]; intro z; cases z
    · cases z : h.get? b with
      | none => exact absurd z x
      | some o => rw [k b o m z]; intro z; cases z
  exact ⟨F.env, let ⟨ml, n, r⟩ := F.ns; ⟨ml, us.ns n, r⟩, fun x i hx => let ⟨c, hc', q⟩ := F.cell x i hx; ⟨c, hc', cell_at q fun o => k c o (hc c (List.mem_map.mpr ⟨(x, c), mem_of_lookup hc', rfl⟩))⟩,
    fun b o x => k b o (fun m => by rw [(hS b m).1] at x; cases x) (F.keep b o x), fun b o x => k b o (fun m => by rw [(hS b m).2.1] at x; cases x) (F.vis b o x), F.off, F.goff, F.hoff, fun b m => inn b (F.hin b m), fun b m => inn b (F.min b m), F.nd⟩

section
variable {w : World} {A : Around} {s : Shared} {cf : Cfg}

theorem c_refused {R : Result → Shared → Prop} {g : Heap} {hs : List Addr} {l : List Env} (N : GL cf) (RA : Room A 6) (hfr : A.frames = some l) (hg : Up g s.heap) (hh : ∀ b ∈ hs, g.get? b = none) (hhi : ∀ b ∈ hs, s.heap.get? b ≠ none)
    (hl : s.heap.FunFrames (hideAll s.heap (l.filterMap (·.frame))) l) (hsl : ∀ b ∈ l.filterMap (·.frame), b ∈ hs)
    (p : TopL w cf g) {tbl : List Nat} {t : Tok} (hlen : tbl.length ≤ 50000) (hlines : ∀ ln ∈ splitT tbl 10, ln.length ≤ 640)
    (k : ∀ h' tk, (∀ b o, b ∉ l.filterMap (·.frame) → s.heap.get? b = some o → h'.get? b = some o) → s.heap.UpToSlots h' → R (.ok (.ret (.bool (readLines (splitT tbl 10)).isNone))) { s with heap := h', toks := tk }) :
    codeAny (model pw w) A (.call (.ref (cf.ad 19)) ⟨[.str (T tbl) t], []⟩) R s := by
  have upB : Up (hideAll s.heap (l.filterMap (·.frame))) s.heap := fun _ _ z => of_hideAll _ z
  refine enterE (g := g) (B := ⟨hideAll s.heap (l.filterMap (·.frame)), hs⟩) (l := (["table"] : List Str).zip [Value.str (T tbl) t]) (vals := [some (.str (T tbl) t)]) upB hg hh hhi (p.f19.up hg) RA (p.gd.nolimit.keeps hg) ?_ ?_ ndS19 fnS19 2 (by kernel_rfl!) fun er h₁ tk₁ u₁ hap R' hfr' hef F => ?_
  · intro fd h1 h2
    obtain ⟨⟩ := fd
    dsimp only at h1 h2
    subst h1 h2
    rfl
  · intro q hq
    exact (by decide +kernel : ∀ y ∈ [("table" : Str)], (scopeOf (stt 19)).names.lookup y = some .local ∨ (scopeOf (stt 19)).names.lookup y = some .cell) _ (List.of_mem_zip (a := q.1) (b := q.2) hq).1
  have hfr2 := hfr' l hfr
  conv in bodyOf _ => whnf
  refine wpAny_execs_cons (wpAny_Try_except ?_)
  refine wpAny_execs_cons (wpAny_Expr_any (hi := not_interactive F.env) ?_)
  refine wpAny_Call_NameR ((EvF.glob p.gd nS19_PaiceHuskStemmer N.ph).run { s with heap := h₁, toks := tk₁ } g _ _ Up.rfl' F fun v g2 h2 tk2 u2 ug2 F2 e2 => ?_)
  subst e2
  refine callWith_of (P := cf.K.In) (by rfl) (keeps_K N.keepC) (evalArgs_any rfl ((EvL.one (EvF.localT nS19_table rfl) Mono.vs).run { s with heap := h2, toks := tk2 } g2 _ _ Up.rfl' F2 fun vs g3 h3 tk3 u3 ug3 F3 hvs => ⟨(p.kin.keeps (ug2.tr ug3)).keeps F3.vis, ?_⟩))
  obtain ⟨v, rfl, tt, rfl⟩ := hvs
  have ug03 := ug2.tr ug3
  have us3 : Up s.heap h3 := u₁.tr (u2.tr u3)
  show wpAny _ _ (call (.ref cf.C) [.str (T tbl) tt] []) _ _ _
  refine wpAny_call (c_make (s := { s with heap := h3, toks := tk3 }) (g := g3) (hs := mutOf er ++ hs) N.toGN R' F3.vis (fun b m => (List.mem_append.mp m).elim (F3.goff b) (F3.hoff b)) (fun b m => (List.mem_append.mp m).elim (F3.min b) (F3.hin b)) (p.toTopA.up ug03) hlen hlines ?_ ?_)
  · intro rs hrs x g4 h4 tk4 u4 ug4 v4 k4 st
    refine wpAny_execs_nil (wpAny_execs_nil ?_)
    have F4 : Fz er (scopeOf (stt 19)) ⟨hideAll s.heap (l.filterMap (·.frame)), hs⟩ g4 h4 [some (.str (T tbl) t)] := F3.see_up u4 v4 k4
    refine wpAny_execs_cons (wpAny_Return_some ((EvF.bool (b := false)).run { s with heap := h4, toks := tk4 } g4 _ _ Up.rfl' F4 fun y g5 h5 tk5 u5 ug5 F5 e5 => ?_))
    rw [e5]
    have up5 : Up s.heap h5 := us3.tr (u4.tr u5)
    rw [hrs] at k
    exact k h5 tk5 (fun b o _ z => up5 b o z) (.of_keeps up5)
  · intro hrs ei er2 h4 tk4 AR h5 ex vs5 mk
    rw [hrs] at k
    generalize hbase : hideAll h3 (er.locals :: l.filterMap (·.frame)) = base at *
    have bup : Up base h3 := hbase ▸ fun _ _ z => of_hideAll _ z
    have off : ∀ b, h3.get? b = none → base.get? b = none := fun b z => bup.none z
    have offS : ∀ b ∈ er.locals :: l.filterMap (·.frame), base.get? b = none := fun b m => hbase ▸ hideAll_none _ m
    have st4 : base.StaysIn h4 := fun b o z => AR.up b o (bup b o z)
    obtain ⟨mr, nr⟩ := AR.nr
    obtain ⟨mi, ni⟩ := AR.ni
    obtain ⟨ml, nl, _⟩ := F3.ns
    have fr1 : h4.FunFrames base (er :: l) := Heap.FunFrames.cons (by rw [F.env.scope, fnS19.1]; decide) hef (nl.keeps AR.up) (offS _ (.head _)) ((funFrames_base hl fun L m => offS L (.tail _ m)).of_keeps fun b o z _ => ⟨o, AR.up _ _ (us3 _ _ z), rfl⟩)
    have fr2 : h4.FunFrames base (ei :: er :: l) := Heap.FunFrames.cons (by rw [AR.ki]; decide) AR.fi ni (off _ AR.oi) fr1
    have fr3 : h4.FunFrames base (er2 :: ei :: er :: l) := Heap.FunFrames.cons (by rw [AR.kr]; decide) AR.fr nr (off _ AR.or) fr2
    obtain ⟨hfr3, hfr4⟩ := AR.frames _ hfr2
    have mk' : Heap.MadeExcOf h4 h5 ex (.type "Exception") vs5 := ⟨mk.keeps, mk.new, mk.there⟩
    refine looks_madeW (s := { s with heap := h5, toks := tk4 }) hfr3 AR.fr st4 fr3 mk' fun h6 t6 H6 U6 => ?_
    refine cameBack_heldW (s := { s with heap := h6, toks := tk4 }) AR.fr H6 fun h7 H7 U7 => ?_
    refine leaves_heldW (s := { s with heap := h7, toks := tk4 }) AR.fr H7 fun h8 H8 U8 => ?_
    refine wpAny_leaves_onW (s := { s with heap := h8, toks := tk4 }) hfr4 AR.fi H8 fun h9 H9 U9 => ?_
    refine wpAny_looks_onW (s := { s with heap := h9, toks := tk4 }) hfr2 hef H9 fun h10 H10 U10 => ?_
    refine wpAny_landsW (s := { s with heap := h10, toks := tk4 }) H10 fun h11 H11 U11 => ?_
    have us5 : Up h3 h5 := fun b o z => mk.keeps b o (AR.up b o z)
    have U : h3.UpToSlots h11 := (Heap.UpToSlots.of_keeps us5).trans (((((U6.trans U7).trans U8).trans U9).trans U10).trans U11)
    have inS : ∀ b ∈ er.locals :: l.filterMap (·.frame), ∃ o, h3.get? b = some o ∧ ∀ vs, o.data ≠ .fields vs := fun b m => by
      rcases List.mem_cons.mp m with rfl | m
      · obtain ⟨o, es, ep, ho, hd, _⟩ := nl
        exact ⟨o, ho, fun vs z => by rw [hd] at z; cases z⟩
      · obtain ⟨_, o, ho, hn⟩ := hl.mem m
        exact ⟨o, us3 _ _ ho, hn⟩
    have keep11 : ∀ h', base.StaysIn h' → ∀ b o, b ∉ er.locals :: l.filterMap (·.frame) → h3.get? b = some o → h'.get? b = some o := fun h' st b o m z => st b o (hbase ▸ hideAll_get _ z m)
    have F11 := Fz.slots (er.locals :: l.filterMap (·.frame)) F3 (keep11 h11 H11.1) U (fun b m => ⟨by
        rcases List.mem_cons.mp m with rfl | m
        · exact upB.none (hap _ Fz.locals_mem)
        · exact hideAll_none _ m, by
        rcases List.mem_cons.mp m with rfl | m
        · exact F3.goff _ Fz.locals_mem
        · exact F3.hoff _ (hsl _ m), inS b m⟩) (fun c hc m => by
        rcases List.mem_cons.mp m with z | m
        · exact (List.nodup_cons.mp F3.nd).1 (z ▸ hc)
        · obtain ⟨_, o, ho, _⟩ := hl.mem m
          have := hap c (.tail _ hc)
          rw [ho] at this; cases this)
    refine wpAny_handleBy_builtin (X := "Exception") (T := "Exception") (b := true) (by kernel_rfl) (by kernel_rfl) (by kernel_rfl) ?_
    refine (EvF.bltin (v := .type "Exception") (p.gd.up ug03) nS19_Exception N.exc (by rfl)).run { s with heap := h11, toks := tk4 } g3 _ _ Up.rfl' F11 fun c g12 h12 tk12 u12 ug12 F12 e12 => ?_
    have H12 := FlyingW.keeps H11 u12
    refine ⟨e12, ?_, ?_⟩
    · obtain ⟨ob, h1, h2⟩ := H12.there
      exact ⟨ob, h1, h2⟩
    · rw [if_pos rfl]
      obtain ⟨q1, q2, q3, q4⟩ := H12
      refine setFlight_atW (s := { s with heap := h12, toks := tk12 }) (f := none) q1 q3 q4 fun h13 r1 r2 r3 r4 => ?_
      refine wpAny_execs_cons (wpAny_Return_some (wpAny_Constant_bool ?_))
      refine k h13 tk12 (fun b o m z => keep11 h13 r1 b o (fun m' => ?_) (us3 b o z)) ((Heap.UpToSlots.of_keeps us3).trans (U.trans ((Heap.UpToSlots.of_keeps u12).trans fun b o z n => ⟨o.slots, r4 b o z n⟩)))
      rcases List.mem_cons.mp m' with rfl | m'
      · have := hap _ (Fz.locals_mem (e := er))
        rw [z] at this; cases this
      · exact m m'
end
end Mine

end

section
open PySem PySem.W PyProof.Rows PySem.Calls
set_option Elab.async false
set_option linter.unusedVariables false
set_option maxRecDepth 100000
namespace Mine

section
variable {w : World} {A : Around} {E : Value → Shared → Prop} {s : Shared} {e : Env} {sc : Scope} {B : Base} {g g₀ h : Heap} {vals : List (Option Value)} {pos : Pos} {rest : List Stmt} {P : PostT} {cf : Cfg}

theorem part_is {l : Option Int} {u : Tok} : IsPart (partValue (l.map (·, u))) l := by
  cases l with
  | none => exact .none
  | some i => exact .int i u
/-- a slice of a list -/
theorem EvF.sliceL {v : Expr} {lo hi : Option Expr} {p : Pos} {l u : Option Int} {K U : Heap → Value → Prop} (hv : EvF w A e sc B vals g₀ v K) (hK : Mono K) (hl : EvP w A e sc B vals g₀ lo l) (hu : EvP w A e sc B vals g₀ hi u)
    (hx : ∀ g x, Up g₀ g → K g x → ∃ vs, IsLst g x vs ∧ vs.length ≤ sizeLine ∧ ∀ g' y, Up g g' → IsLst g' y (slicePick vs.toArray l u none).toList → U g' y)
    (hs : ∀ l a, subscripted (.Slice lo hi Option.none p) false (.ref l) (.ref a) = operate [.ref a, .ref l] (getItem (.ref l) (.ref a)) := by intro _ _; with_unfolding_all rfl) :
    EvF w A e sc B vals g₀ (.Subscript v (.Slice lo hi Option.none p) pos) U := by
  have S : EvF w A e sc B vals g₀ (.Slice lo hi Option.none p) (fun g y => ∃ a vl vu, y = .ref a ∧ g.get? a = some { cls := .type "slice", data := .fields #[vl, vu, .none] } ∧ IsPart vl l ∧ IsPart vu u) := .mk fun s g Q E up F h =>
    wpAny_Slice (hl.run s g _ E up F fun ua g₁ h₁ tk₁ u₁ ug₁ F₁ => hu.run { s with heap := h₁, toks := tk₁ } g₁ _ E (up.tr ug₁) F₁ fun ub g₂ h₂ tk₂ u₂ ug₂ F₂ =>
      EvP.nil.run { s with heap := h₂, toks := tk₂ } g₂ _ E ((up.tr ug₁).tr ug₂) F₂ fun k g₃ h₃ tk₃ u₃ ug₃ F₃ => by
        obtain ⟨g₄, ug₄, F₄, hg⟩ := F₃.new { cls := .type "slice", data := .fields #[partValue (l.map (·, ua)), partValue (u.map (·, ub)), .none] } rfl
        exact h _ g₄ _ tk₃ ((u₁.tr (u₂.tr u₃)).tr (Up.push _)) (ug₁.tr (ug₂.tr (ug₃.tr ug₄))) F₄ ⟨_, _, _, rfl, hg, part_is, part_is⟩)
  refine EvF.sub hv hK S fun g x y ug hKx ⟨a, vl, vu, e2, hg, pl, pu⟩ s Q E FF h => ?_
  subst e2
  obtain ⟨vs, ⟨b, e1, hls⟩, hsz, hU⟩ := hx g x ug hKx
  subst e1
  have hl' : s.heap.IsList b vs.toArray := let ⟨o, ho, r⟩ := hls; ⟨o, FF.vis _ _ ho, r⟩
  refine tail_any hl'.typeIs slot_list_getitem.lookup (wpAny_getItem_list_slice hl' ⟨_, FF.vis _ _ hg, rfl, rfl⟩ pl pu .none (by simp) ?_ (by rw [List.size_toArray]; exact hsz)) (hs _ _)
  obtain ⟨g₂, ug₂, F₂, hg₂⟩ := FF.new { cls := .type "list", data := .seq (slicePick vs.toArray l u none) } rfl
  exact h _ g₂ _ _ (Up.push _) ug₂ F₂ (hU g₂ _ ug₂ ⟨_, rfl, _, hg₂, rfl, 0, by simp⟩)

/-- two lists one after the other -/
theorem EvF.addL {l r : Expr} {K J U : Heap → Value → Prop} (hl : EvF w A e sc B vals g₀ l K) (hK : Mono K) (hr : EvF w A e sc B vals g₀ r J)
    (hx : ∀ g x y, Up g₀ g → K g x → J g y → ∃ vs ws, IsLst g x vs ∧ IsLst g y ws ∧ vs.length + ws.length ≤ sizeLine ∧ ∀ g' z, Up g g' → IsLst g' z (vs ++ ws) → U g' z) : EvF w A e sc B vals g₀ (.BinOp l .Add r pos) U :=
  EvF.bin hl hK hr fun g x y ug hKx hJ s Q E FF h => by
    obtain ⟨vs, ws, ⟨a, e1, ha⟩, ⟨b, e2, hb⟩, hsz, hU⟩ := hx g x y ug hKx hJ
    subst e1 e2
    obtain ⟨⟨cls, dd, data, sl⟩, ho, hc, n, hd⟩ := ha
    obtain ⟨⟨cls2, dd2, data2, sl2⟩, ho2, hc2, n2, hd2⟩ := hb
    simp only at hc hd hc2 hd2
    subst hc hd hc2 hd2
    have e : vs.toArray ++ ws.toArray = (vs ++ ws).toArray := by simp
    refine concat_meets ⟨_, FF.vis _ _ ho, rfl⟩ ⟨_, FF.vis _ _ ho2, rfl⟩ noFill_list_add seq_list_add PySem.F.slot_list_add PySem.F.entry_list_add (PySem.F.args_list_add_2 _ _) (list_addW a b vs.toArray ws.toArray n n2 dd dd2 sl sl2 (by simpa using hsz)) ⟨FF.vis _ _ ho, FF.vis _ _ ho2, ?_⟩
    rw [e]
    obtain ⟨g₂, ug₂, F₂, hg₂⟩ := FF.new { cls := .type "list", data := .seq (vs ++ ws).toArray } rfl
    exact h _ g₂ _ _ (Up.push _) ug₂ F₂ (hU g₂ _ ug₂ ⟨_, rfl, _, hg₂, rfl, _, rfl⟩)

/-- texts joined -/
def joinT (sep : List Nat) : List (List Nat) → List Nat
  | [] => []
  | [l] => l
  | l :: m :: r => l ++ sep ++ joinT sep (m :: r)
theorem T_joinS (sep : List Nat) : ∀ ls : List (List Nat), Str.join (T sep) (ls.map T) = T (joinT sep ls)
  | [] => rfl
  | [l] => rfl
  | l :: m :: r => by
    have ih := T_joinS sep (m :: r)
    show T l ++ T sep ++ Str.join (T sep) ((m :: r).map T) = _
    rw [ih, T_add, T_add]
    rfl
theorem T_join (sep : List Nat) (ls : List (List Nat)) : Txt.join (T sep) (ls.map T) = T (joinT sep ls) := by
  rw [← T_joinS]
  exact StrLaws.glued_eq_join _ _
theorem strs_pairs {ls : List (List Nat)} {vs : List Value} (h : StrsOf ls vs) : ∃ l : List (Str × Tok), strValues l = vs ∧ l.map (·.1) = ls.map T := by
  induction h with
  | nil => exact ⟨[], rfl, rfl⟩
  | cons a _ ih =>
    obtain ⟨t, rfl⟩ := a
    obtain ⟨l, e1, e2⟩ := ih
    exact ⟨(_, t) :: l, by rw [← e1]; rfl, by rw [List.map_cons, List.map_cons, e2]; rfl⟩
theorem EvF.joinE {o y : Expr} {p : Pos} {sep : List Nat} {ls : List (List Nat)} {pl : Sem Bool} (ho : EvF w A e sc B vals g₀ o (VT sep)) (hy : EvF w A e sc B vals g₀ y (fun g v => ∃ vs, IsLst g v vs ∧ StrsOf ls vs)) (M : Nat) (hM : ∀ l ∈ ls, l.length ≤ M) (hsz : ls.length * M + ls.length * sep.length ≤ 16777216)
    (h1 : starEach [y] e = (false, eval y e) :: starEach [] e := by rfl) (hp : (backTo pos (starEach [y] e)).any (·.1) = false := by rfl)
    (he : eval (.Call (.Attribute o "join" p) [y] [] pos) e = (do
      let ov ← eval o e
      standAt p.atName
      let (f, first) ← holding [ov] (getMethod ov "join" pl)
      callWith pos f first (backTo pos (starEach [y] e)) []) := by rfl) : EvF w A e sc B vals g₀ (.Call (.Attribute o "join" p) [y] [] pos) (VT (joinT sep ls)) :=
  EvF.strM ho (fun _ _ _ _ _ k => GM.join k) (EvL.one hy (fun g g' v u ⟨vs, a, b⟩ => ⟨vs, a.up u, b⟩) h1) (fun g t vs _ ⟨v, e1, us, ⟨a, e2, hl⟩, hs⟩ s Q E F k => by
    subst e1 e2
    obtain ⟨l, e3, e4⟩ := strs_pairs hs
    subst e3
    refine SC.join (texts := ls.map T) (let ⟨o, ho, r⟩ := hl; ⟨o, F.vis _ _ ho, r⟩) e4 ?_ fun t' c => ?_
    · unfold JoinOk
      rw [StrLaws.joinFits (B := M) (fun z hz => by
        obtain ⟨q, hq, rfl⟩ := List.mem_map.mp hz
        rw [T_len]; exact hM q hq) (by rw [List.length_map, T_len]; exact hsz)]
      rfl
    · rw [T_join]
      exact k _ g s.heap c Up.rfl' Up.rfl' F ⟨t', rfl⟩) hp he

/-- a number is taken from the script -/
theorem EvF.take {i : Nat} {p : Pos} {x y : Expr} {sv : Value} {xs : List Int} {k : Nat} (N : GL cf) (q : TopL w cf g₀) (hs : IntL g₀ sv xs) (R : Room A 1) (hn : nmAt sc "_law_take" = some (i, .globalImplicit))
    (hx : EvF w A e sc B vals g₀ x (fun _ v => v = sv)) (hy : EvF w A e sc B vals g₀ y (VN k)) (hk : k ≤ 1000) (hl : xs.length ≤ 1000)
    (he : starEach [x, y] e = (false, eval x e) :: starEach [y] e := by rfl) (he' : starEach [y] e = (false, eval y e) :: starEach [] e := by rfl) (hp : (backTo pos (starEach [x, y] e)).any (·.1) = false := by rfl) :
    EvF w A e sc B vals g₀ (.Call (.Name "_law_take" p) [x, y] [] pos) (VN (takeN xs k)) :=
  EvF.call2 (W := VN (takeN xs k)) q.gd hn N.take q.f12 R hx Mono.eq hy Mono.vi (fun g v u ug e1 ⟨t2, e2⟩ => by
    rw [e1, e2]; exact ⟨_, ⟨q.up ug, hs.up ug⟩, c_take N sv xs k t2 hk (by rw [sizeLine_eq]; omega)⟩) (by decide +kernel) he he' hp
end
end Mine

end

section
open PySem PySem.W PyProof.Rows PySem.Calls
set_option Elab.async false
set_option linter.unusedVariables false
set_option maxRecDepth 100000
namespace Mine

def sides : List (List Nat) := [[], [], [], [39, 115], [32, 97, 116, 101], [45, 121]]
/-- the rounds that are enough -/
def N0 : Nat := 900
/-- what is to be shown of one turn: the law's word and what is due, and the stemmer's answer -/
structure TurnOk (bk : Nat → List Rule) (rs : List Rule) (xs : List Int) (a : Nat) : Prop where
  ok : ∃ d0 w1 d1, lawGo rs N0 (stripPrefix (lawWord xs a rs)) true = some d0 ∧ (d0 ≠ none → w1 = lawWord xs a rs ∧ d1 = d0) ∧ (d0 = none → w1 = 101 :: lawWord xs a rs ∧ lawGo rs N0 (stripPrefix w1) true = some d1) ∧
    (takeN xs (a + 4) % 7 ≠ 6 → ∀ d, d1 = some d → ∃ n, n ≤ N0 ∧ stemOf bk n (w1 ++ sides.getD (takeN xs (a + 4) % 7) []) = some d) ∧ (takeN xs (a + 4) % 7 = 6 → ∃ n, n ≤ N0 ∧ stemOf bk n (45 :: w1) = some (45 :: w1))
def elseOf : Stmt → List Stmt
  | .If _ _ b _ => b
  | _ => []
def S20 (i : Nat) : Stmt := ((bodyOf (stt 20))[i]?).getD (.Pass default)

section
variable {w : World} {A : Around} {e : Env} {sc : Scope} {B : Base} {g₀ : Heap} {vals : List (Option Value)} {pos : Pos} {cf : Cfg}
theorem EvF.call3 {f : Str} {i : Nat} {p : Pos} {x y z : Expr} {a : Addr} {st : Stmt} {qual : Str} {n : Nat} {mg : Str → Option Value} {V U X W : Heap → Value → Prop} (G : Gd mg g₀) (hn : nmAt sc f = some (i, .globalImplicit)) (hv : mg f = some (.ref a)) (hf : FnAt g₀ a st qual) (R : Room A n)
    (hx : EvF w A e sc B vals g₀ x V) (hV : Mono V) (hy : EvF w A e sc B vals g₀ y U) (hU : Mono U) (hz : EvF w A e sc B vals g₀ z X) (hX : Mono X) (hc : ∀ g v u t, Up g₀ g → V g v → U g u → X g t → ∃ P, P g ∧ Mine.Gives w n (.ref a) [v, u, t] P W)
    (hd : (f == ("__debug__" : Str)) = false := by decide +kernel)
    (h1 : starEach [x, y, z] e = (false, eval x e) :: starEach [y, z] e := by rfl) (h2 : starEach [y, z] e = (false, eval y e) :: starEach [z] e := by rfl) (h3 : starEach [z] e = (false, eval z e) :: starEach [] e := by rfl) (hp : (backTo pos (starEach [x, y, z] e)).any (·.1) = false := by rfl) :
    EvF w A e sc B vals g₀ (.Call (.Name f p) [x, y, z] [] pos) W :=
  EvF.callD (EvF.glob G hn hv hd) hf (EvL.cons hx hV (EvL.cons hy hU (EvL.one hz hX h3) h2) h1) R (fun g vs ug ⟨v, u1, e1, k1, u, u2, e2, k2, t, e3, k3⟩ => by subst e1 e2 e3; exact hc g v u t ug k1 k2 k3) hp
end

theorem lawWord_len {xs : List Int} {a : Nat} {rs : List Rule} (hen : ∀ r ∈ rs, r.en.length ≤ 100) : (lawWord xs a rs).length ≤ 210 := by
  unfold lawWord
  have h1 := wordA_len (xs := xs) (at' := a)
  have h2 := addR_len (xs := xs) (at' := a) (w := wordA xs a) (k := 2) hen
  have h3 := addR_len (xs := xs) (at' := a) (w := addR xs a rs (wordA xs a) 2) (k := 3) hen
  omega

section
variable {w : World} {A : Around} {cf : Cfg} {e : Env} {B : Base} {g : Heap}

theorem law_turns (N : GL cf) (R : Room A 5) (p : TopL w cf g) {sv rv mv : Value} {xs : List Int} {rs : List Rule} {own : Bool} {bk : Nat → List Rule} (hs : IntL g sv xs) (hr : RulesL g rv rs) (hx : xs.length ≤ 63)
    (hrl : rs.length ≤ 1000) (hen : ∀ r ∈ rs, r.en.length ≤ 100 ∧ r.mo.length ≤ 100 ∧ r.n ≤ r.en.length) (hb : ∀ c, ∀ r ∈ bk c, r.mo.length ≤ 1000 ∧ r.en.length ≤ 1000) (hbl : ∀ c, (bk c).length ≤ 1000)
    (hown : own = true → bk = stdBk) (hmade : own = false → ∃ x, mv = .ref x ∧ StemAt cf w g x bk)
    (turns : ∀ k, k < (if own then 2 else 3) → TurnOk bk rs xs (7 + 5 * k)) (o4 o5 o6 o7 o8 o9 o10 o11 : Option Value) :
    BlF w A e (scopeOf (stt 20)) B [some sv, some (.bool own), some rv, some mv, o4, o5, o6, o7, o8, o9, o10, o11] g ((bodyOf (stt 20)).drop 2) (fun _ f _ => f = .ret (.bool true)) := by
  have G := p.gd
  have L : ∀ m : Nat, m ≤ 1000000 → m ≤ sizeLine := fun m h => by rw [sizeLine_eq]; omega
  have hen1 : ∀ r ∈ rs, r.en.length ≤ 100 := fun r h => (hen r h).1
  have hT : (if own then 2 else 3 : Nat) ≤ 3 := by split <;> omega
  conv in List.drop _ _ => whnf
  refine BlF.for (fun g' v => True) R.handled (EvF.range1 (EvF.bltin G nS20_range N.range rfl) (EvF.ifE (V := VN (if own then 2 else 3)) (TsF.localB nS20_own rfl) (fun h => by rw [if_pos h]; exact EvF.num 2) (fun h => by rw [h]; exact EvF.num 3))) ?_
    (fun g' v u _ => BlF.ret EvF.bool fun g y u hy => by rw [hy])
  intro g₁ v u₁ hv
  refine ⟨_, _, Iter.range hv (by omega), fun i g' v => ∃ (p4 p5 p6 p7 p8 p9 p10 p11 : Option Value), v = [some sv, some (.bool own), some rv, some mv, p4, p5, p6, p7, p8, p9, p10, p11], ⟨_, _, _, _, _, _, _, _, rfl⟩, ?_, fun _ _ _ _ => trivial⟩
  rintro i x g₂ v' hi ⟨tx, rfl⟩ u₂ ⟨p4, p5, p6, p7, p8, p9, p10, p11, rfl⟩
  have u02 := u₁.tr u₂
  refine ⟨_, AsF.name nS20_turn (by simp), fun B' => ?_⟩
  refine BlF.assign (EvF.addN (EvF.num 7) (EvF.mulN (EvF.num 5) (EvF.localN nS20_turn rfl) (IntMulOk.of_left (by decide +kernel)))) nS20_at ?_
  rintro g₃ y u₃ ⟨t₃, rfl⟩
  obtain ⟨d0, w1, d1, hd0, hd1, hd2, hd3, hd4⟩ := (turns i hi).ok
  have hwl := lawWord_len (xs := xs) (a := 7 + 5 * i) (rs := rs) hen1
  generalize ha : 7 + 5 * i = a at *
  have ha' : a ≤ 30 := by omega
  have u03 := u02.tr u₃
  refine BlF.assign (EvF.call3 (n := 2) (W := VT (lawWord xs a rs)) (G.up u03) nS20__law_word N.lword (p.up u03).f17 (R.le (by omega)) (EvF.cell nS20_script rfl) Mono.eq (EvF.localN nS20_at rfl) Mono.vi (EvF.cell nS20_rules rfl) Mono.eq fun g v u t ug e1 ⟨t2, e2⟩ e3 => by
    rw [e1, e2, e3]; exact ⟨_, ⟨p.up (u03.tr ug), hs.up (u03.tr ug), hr.up (u03.tr ug)⟩, c_lword N sv rv xs a rs t2 (by omega) (by omega) hrl hen1⟩) nS20_word ?_
  rintro g₄ y u₄ ⟨t₄, rfl⟩
  have u04 := u03.tr u₄
  generalize lawWord xs a rs = w0 at *
  refine BlF.assign (EvF.call2 (n := 2) (W := VO d0) (G.up u04) nS20__law_stem N.lstem (p.up u04).f18 (R.le (by omega)) (EvF.cell nS20_rules rfl) Mono.eq (EvF.localT nS20_word rfl) Mono.vs fun g v u ug e1 ⟨t2, e2⟩ => by
    rw [e1, e2]; exact ⟨_, ⟨p.up (u04.tr ug), hr.up (u04.tr ug)⟩, c_lstem N rv rs w0 t2 N0 d0 hrl hen (by unfold N0; omega) hd0⟩) nS20_due ?_
  rintro g₅ y u₅ hy
  have u05 := u04.tr u₅
  have hnone : ∀ (d : Option (List Nat)) g z, VO d g z → (z == Value.none) = d.isNone := fun d g z h => by
    cases d with
    | none => rw [show z = .none from h]; rfl
    | some l => obtain ⟨t, rfl⟩ := h; rfl
  refine BlF.step (M := fun g' f v => f = .next ∧ ∃ z t, VO d1 g' z ∧ w1.length ≤ 211 ∧ v = [some sv, some (.bool own), some rv, some mv, p4, p5, p6, some (.int (i : Nat) tx), some (.int (a : Nat) t₃), some (.str (T w1) t), some z, p11]) (StF.ite (b := d0.isNone) (TsF.isNone (EvF.local nS20_due rfl) Mono.eq fun g v u e => by rw [e]; exact hnone d0 _ _ hy) (fun h => ?_) (fun h => ?_)) ?_
  · have h := Option.isNone_iff_eq_none.mp h
    obtain ⟨rfl, hg1⟩ := hd2 h
    refine BlF.assign (EvF.addT (EvF.sg 101) (EvF.localT nS20_word rfl) (L _ (by simp; omega))) nS20_word ?_
    rintro g₆ y u₆ ⟨t₆, rfl⟩
    have u06 := u05.tr u₆
    refine BlF.assign (EvF.call2 (n := 2) (W := VO d1) (G.up u06) nS20__law_stem N.lstem (p.up u06).f18 (R.le (by omega)) (EvF.cell nS20_rules rfl) Mono.eq (EvF.localT nS20_word rfl) Mono.vs fun g v u ug e1 ⟨t2, e2⟩ => by
      rw [e1, e2]; exact ⟨_, ⟨p.up (u06.tr ug), hr.up (u06.tr ug)⟩, c_lstem N rv rs (101 :: w0) t2 N0 d1 hrl hen (by unfold N0; simp; omega) hg1⟩) nS20_due ?_
    rintro g₇ z u₇ hz
    exact BlF.nil fun g' u' => ⟨rfl, z, t₆, hz, by simp; omega, rfl⟩
  · have h : d0 ≠ none := fun z => by rw [z] at h; cases h
    obtain ⟨rfl, rfl⟩ := hd1 h
    exact BlF.nil fun g' u' => ⟨rfl, y, t₄, hy, by omega, rfl⟩
  rintro g₆ f v u₆ ⟨rfl, z, t₆, hz, hl1, rfl⟩
  have u06 := u05.tr u₆
  refine BlF.assign (EvF.modN (EvF.take N (p.up u06) (hs.up u06) (R.le (by omega)) nS20__law_take (EvF.cell nS20_script rfl) (EvF.addN (EvF.localN nS20_at rfl) (EvF.num 4)) (by omega) (by omega)) (EvF.num 7) (by decide)) nS20_side ?_
  rintro g₇ y u₇ ⟨t₇, rfl⟩
  have hS : takeN xs (a + 4) % 7 < 7 := Nat.mod_lt _ (by decide)
  generalize takeN xs (a + 4) % 7 = sd at *
  have u07 := u06.tr u₇
  refine BlF.step (M := fun g' f v => f = .next ∧ ∃ z' t w2 d2, VO d2 g' z' ∧ w2.length ≤ 300 ∧ (∀ d, d2 = some d → ∃ n, n ≤ N0 ∧ stemOf bk n w2 = some d) ∧ v = [some sv, some (.bool own), some rv, some mv, p4, p5, p6, some (.int (i : Nat) tx), some (.int (a : Nat) t₃), some (.str (T w2) t), some z', some (.int (sd : Nat) t₇)]) (StF.ite (TsF.eqN (EvF.localN nS20_side rfl) (EvF.num 6)) (fun h => ?_) (fun h => ?_)) ?_
  · have h : sd = 6 := by simpa using h
    refine BlF.assign (EvF.addT (EvF.sg 45) (EvF.localT nS20_word rfl) (L _ (by simp; omega))) nS20_word ?_
    rintro g₈ y u₈ ⟨t₈, rfl⟩
    refine BlF.assign (EvF.local nS20_word rfl) nS20_due ?_
    rintro g₉ y u₉ rfl
    exact BlF.nil fun g' u' => ⟨rfl, _, t₈, 45 :: w1, some (45 :: w1), ⟨t₈, rfl⟩, by simp; omega, fun d hd => by cases hd; exact hd4 h, rfl⟩
  · have h : sd ≠ 6 := by simpa using h
    have l6 : ∀ i, i < 6 → (sides.getD i []).length ≤ 4 := by decide
    have l6' := l6 sd (by omega)
    refine BlF.assign (EvF.addT (EvF.localT nS20_word rfl) (EvF.pick sides ?_ (EvF.localN nS20_side rfl) (by show sd < 6; omega) (L _ (by decide))) (L _ (by omega))) nS20_word ?_
    · repeat (first | exact All2.nil | refine All2.cons ⟨_, _, _, rfl, by decide +kernel⟩ ?_)
    rintro g₈ y u₈ ⟨t₈, rfl⟩
    exact BlF.nil fun g' u' => ⟨rfl, z, t₈, _, d1, hz, by rw [List.length_append]; omega, hd3 h, rfl⟩
  rintro g₈ f v u₈ ⟨rfl, z', t₈, w2, d2, hz', hl2, hfin, rfl⟩
  have u08 := u07.tr u₈
  refine BlF.ite1 (b := false) ?_ (fun h => by cases h) (fun _ => BlF.nil fun g' u' => ⟨_, _, _, _, _, _, _, _, rfl⟩)
  cases d2 with
  | none => exact TsF.and (b := false) (c := false) (TsF.isSome (EvF.local nS20_due rfl) Mono.eq fun g v u e => by rw [e]; exact hnone none _ _ hz') fun h => by cases h
  | some d =>
    obtain ⟨n, hn, hst⟩ := hfin d rfl
    obtain ⟨tz, rfl⟩ := hz'
    have hsz : w2.length + n * 1000 + 1000 ≤ sizeLine := L _ (by unfold N0 at hn; omega)
    have hdd : (d != d) = false := by simp
    refine TsF.and (b := true) (c := false) (TsF.isSome (EvF.local nS20_due rfl) Mono.eq fun g v u e => by rw [e]; rfl) fun _ => TsF.and1 ?_
    rw [← hdd]
    refine TsF.neT (EvF.ifE (V := VT d) (TsF.localB nS20_own rfl) (fun ho => ?_) (fun ho => ?_)) ((EvF.local nS20_due rfl).weak fun _ _ _ e => ⟨tz, e⟩)
    · have := hown ho
      subst this
      exact EvF.call1 (n := 3) (V := VT w2) (G.up u08) nS20_stem N.stem (p.up u08).f7 (R.le (by omega)) (EvF.localT nS20_word rfl) Mono.vs fun g v u ⟨t2, e2⟩ => by
        rw [e2]; exact ⟨_, p.up (u08.tr u), c_sstem N w2 t2 n d 1000 hb hbl hsz hst⟩
    · obtain ⟨x, hx, st⟩ := hmade ho
      subst hx
      exact EvF.stemOn N.toGN (p.up u08).toTopA (st.up (u02.tr (u₃.tr (u₄.tr (u₅.tr (u₆.tr (u₇.tr u₈))))))) (R.le (by omega)) (EvF.local nS20_made rfl) (EvF.localT nS20_word rfl) n d 1000 hb hbl hsz hst
end
end Mine

end

section
open PySem PySem.W PyProof.Rows PySem.Calls
set_option Elab.async false
set_option linter.unusedVariables false
set_option maxRecDepth 100000
namespace Mine

def faultN (xs : List Int) : Nat := takeN xs 1 / 5 % 30
def rulesO (xs : List Int) : List Rule := (List.range (1 + takeN xs 1 % 5)).map fun k => lawRule (takeN xs (2 + k))
def rowsO (xs : List Int) : List (List Nat) := (List.range (1 + takeN xs 1 % 5)).map fun k => told (lawRule (takeN xs (2 + k))) (takeN xs (2 + k) / 7)
def rowsF (xs : List Int) : List (List Nat) := if faultN xs < 6 then (rowsO xs).take (faultN xs % ((rowsO xs).length + 1)) ++ [faults.getD (faultN xs) []] ++ (rowsO xs).drop (faultN xs % ((rowsO xs).length + 1)) else rowsO xs
def tableO (xs : List Int) : List Nat := joinT [10] (rowsF xs)
def ownRows : List (List Nat) := (splitT defT 10).filter fun l => l != []
def ownRules : List Rule := ownRows.map lawRead

theorem swaps_cell {e : Env} {sc : Scope} (E : EnvIs e sc) {elt : Expr} {gens : List Comprehension} {scope : Scope} {pos p : Pos} {x : Str} {ln : Nat} (h : sc.names.lookup x ≠ some .local) :
    swapsWith (.ListComp elt gens scope pos) (some (.Name x p)) ln e = pure false := by
  unfold swapsWith
  show (pure _ : Sem Bool) = _
  rw [E.kindOf]
  have : (sc.names.lookup x == some NameKind.local) = false := by
    cases z : sc.names.lookup x with
    | none => rfl
    | some k => cases k <;> first | rfl | exact absurd z h
  rw [this]
  simp
theorem swaps_local {e : Env} {sc : Scope} (E : EnvIs e sc) {elt : Expr} {gens : List Comprehension} {scope : Scope} {pos p : Pos} {x : Str} {ln : Nat} (h : sc.names.lookup x = some .local) (hl : (p.line == pos.line) = true)
    (hn : (scope.names.any fun (n, k) => n == x && (k == .local || k == .cell)) = false) : swapsWith (.ListComp elt gens scope pos) (some (.Name x p)) ln e = pure true := by
  unfold swapsWith
  show (pure _ : Sem Bool) = _
  have hk : e.blockKind = .function := by
    unfold Env.blockKind
    rw [E.scope, E.kind]; rfl
  have hl' : (p.line == (Expr.ListComp elt gens scope pos).pos.line) = true := hl
  rw [E.kindOf, h, hk, hl', hn]
  rfl

section
variable {w : World} {A : Around} {cf : Cfg} {e : Env} {B : Base} {g : Heap}

theorem st_refused (N : GL cf) (R : Room A 6) (hfr : A.frames = some [e]) (hef : e.frame = some e.locals) (p : TopL w cf g) {vals : List (Option Value)} {tbl : List Nat} {tt tf : Tok} {fn : Nat} (ht : at' vals 6 = some (.str (T tbl) tt)) (hf : at' vals 5 = some (.int (fn : Nat) tf))
    (hlen : tbl.length ≤ 50000) (hlines : ∀ ln ∈ splitT tbl 10, ln.length ≤ 640) (hq : (readLines (splitT tbl 10)).isNone = decide (fn < 6)) {p1 p2 p3 p4 p5 p6 p7 p8 : Pos} {body : List Stmt} {k : Nat} :
    StF w A e (scopeOf (stt 20)) B vals g (.If (.Compare (.Call (.Name "_law_refused" p1) [.Name "table" p2] [] p3) [.NotEq] [.Compare (.Name "fault" p4) [.Lt] [.Constant (.int 6) k p5] p6] p7) body [] p8) (fun _ f v => f = .next ∧ v = vals) := .mk fun s g₁ Q E u F kk => by
  refine wpAny_If (wpAny_isTrue_Compare1 (wpAny_Call_NameR ((EvF.glob (p.gd.up u) nS20__law_refused N.refused).run s g₁ _ E Up.rfl' F fun v g2 h2 tk2 u2 ug2 F2 e2 => ?_)))
  subst e2
  obtain ⟨o, fd, h1, h2', _⟩ := p.f19.at_
  refine callWith_function (o := o) (fd := fd) (evalArgs_any rfl ((EvL.one (EvF.localT nS20_table ht) Mono.vs).run { s with heap := h2, toks := tk2 } g2 _ _ Up.rfl' F2 fun vs g3 h3 tk3 u3 ug3 F3 hvs => ⟨⟨F3.vis _ _ ((ug2.tr ug3) _ _ (u _ _ h1)), h2'⟩, ?_⟩))
  obtain ⟨v, rfl, t3, rfl⟩ := hvs
  have hfm : [e].filterMap (·.frame) = [e.locals] := by simp [hef]
  show wpAny _ _ (call (.ref (cf.ad 19)) [.str (T tbl) t3] []) _ _ _
  have lo : ∃ ml, h3.Ns e.locals ml := let ⟨ml, n, _⟩ := F3.ns; ⟨ml, n⟩
  obtain ⟨ml, nl⟩ := lo
  have ff : h3.FunFrames (hideAll h3 ([e].filterMap (·.frame))) [e] := Heap.FunFrames.cons (by rw [F3.env.scope, fnS20.1]; decide) hef nl (hideAll_none _ (by rw [hfm]; exact .head _)) trivial
  refine wpAny_call (c_refused (s := { s with heap := h3, toks := tk3 }) (g := g3) (hs := mutOf e ++ B.hid) N R hfr F3.vis (fun b m => (List.mem_append.mp m).elim (F3.goff b) (F3.hoff b)) (fun b m => (List.mem_append.mp m).elim (F3.min b) (F3.hin b)) ff
    (fun b m => by rw [hfm, List.mem_singleton] at m; subst m; exact List.mem_append_left _ Fz.locals_mem) (p.up (u.tr (ug2.tr ug3))) hlen hlines fun h4 tk4 k4 us4 => ?_)
  rw [hfm] at k4
  have F4 := Fz.slots [e.locals] F3 k4 us4 (fun b m => by
      rw [List.mem_singleton] at m
      subst m
      refine ⟨F3.off _ Fz.locals_mem, F3.goff _ Fz.locals_mem, ?_⟩
      obtain ⟨o, es, ep, ho, hd, _⟩ := nl
      exact ⟨o, ho, fun vs z => by rw [hd] at z; cases z⟩) (fun c hc m => by
      rw [List.mem_singleton] at m
      exact (List.nodup_cons.mp F3.nd).1 (m ▸ hc))
  refine (EvF.ltN (EvF.localN nS20_fault hf) (EvF.num 6)).run { s with heap := h4, toks := tk4 } g3 _ E Up.rfl' F4 fun v g5 h5 tk5 u5 ug5 F5 e5 => ?_
  subst e5
  refine EqBoolInt.of_rcne (SeqAt.RcNeAt.bool_bool _ _) ?_
  have hz : (!((readLines (splitT tbl 10)).isNone == decide (fn < 6))) = false := by rw [hq]; simp
  rw [hz]
  refine wpAny_truthy_bool ?_
  rw [if_neg Bool.false_ne_true]
  exact wpAny_execs_nil (kk .next g5 h5 tk5 vals ((ug2.tr ug3).tr ug5) F5 ⟨rfl, rfl⟩)

theorem law_own (N : GL cf) (R : Room A 5) (E : EnvIs e (scopeOf (stt 20))) (p : TopL w cf g) {sv : Value} {dt : List Nat} {lines : List (List Nat)} (hdt : ∃ t, cf.mg "defaultrules" = some (.str (T dt) t)) (hlines : splitT dt 10 = lines) (hd : dt.length ≤ 100000) (hn : lines.length ≤ 1000)
    (hread : ∀ l ∈ lines.filter (fun l => l != []), readable l = true) :
    BlF w A e (scopeOf (stt 20)) B [some sv, some (.bool true), none, none, none, none, none, none, none, none, none, none] g (thenOf (S20 1))
      (fun g' f v => f = .next ∧ ∃ rv, v = [some sv, some (.bool true), some rv, some .none, none, none, none, none, none, none, none, none] ∧ RulesL g' rv ((lines.filter fun l => l != []).map lawRead)) := by
  have G := p.gd
  obtain ⟨td, htd⟩ := hdt
  have L : ∀ m : Nat, m ≤ 1000000 → m ≤ sizeLine := fun m h => by rw [sizeLine_eq]; omega
  conv in thenOf _ => whnf
  refine BlF.assignC (EvF.listComp 1 R.handled (K := fun g v => ∃ vs, IsLst g v vs ∧ StrsOf lines vs) (hlines ▸ EvF.split1 ((EvF.glob G nS20_defaultrules htd).weak fun _ _ _ e => ⟨_, e⟩) (EvF.sg 10) (L _ (by omega))) [none, none, none] (by kernel_rfl!) (by decide +kernel) (by decide +kernel) (by decide +kernel) (by decide +kernel) (by decide +kernel)
    (Wl := fun g ys => All2 (fun r v => IsRule g v r) ((lines.filter fun l => l != []).map lawRead) ys) ?_) nS20_rules ?_ (hs := swaps_cell E (x := "rules") (by decide +kernel))
  · rintro g₁ v u₁ ⟨vs, hls, hst⟩
    have hlen : lines.length = vs.length := All2.len hst
    refine ⟨vs.length, _, fun i => lines.getD i [] != [], fun i g y => lines.getD i [] ∈ (lines.filter fun l => l != []) → IsRule g y (lawRead (lines.getD i [])), fun i g g' v u h m => IsRule.up (h m) u, Iter.list hls, L _ (by omega), ?_, ?_⟩
    · rintro cenv B' i y g₂ E' hi hx ug
      obtain ⟨q, hq, t₂, rfl⟩ := All2.get hst hx
      have hqe : lines.getD i [] = q := by rw [List.getD_eq_getElem?_getD, hq]; rfl
      show TsL _ _ _ _ _ _ _ _ (lines.getD i [] != []) ∧ ((lines.getD i [] != []) = true → EvF _ _ _ _ _ _ _ _ (fun g y => lines.getD i [] ∈ (lines.filter fun l => l != []) → IsRule g y (lawRead (lines.getD i []))))
      rw [hqe]
      have u02 := u₁.tr ug
      refine ⟨.inr ⟨_, rfl, TsF.neT (EvF.localT (i := 1) (by decide +kernel) rfl) (EvF.strT (l := []))⟩, fun hp => ?_⟩
      have hm : q ∈ (lines.filter fun l => l != []) := List.mem_filter.mpr ⟨List.mem_of_getElem? hq, hp⟩
      exact (EvF.call1 (n := 1) (W := fun g v => IsRule g v (lawRead q)) (G.up u02) (i := 2) (by decide +kernel) N.lread (p.up u02).f16 (R.le (by omega)) (EvF.localT (i := 1) (by decide +kernel) rfl) Mono.vs fun g v u ⟨t2, e2⟩ => by
        rw [e2]; exact ⟨_, p.up (u02.tr u), c_lread N q t2 (hread q hm)⟩).weak fun _ _ _ h _ => h
    · intro g₂ zs ug h
      unfold Sel at h
      have key : ∀ (rows : List (List Nat)) (is : List Nat) (zs : List Value), (is.map fun i => lines.getD i []) = rows → All2 (fun i y => lines.getD i [] ∈ (lines.filter fun l => l != []) → IsRule g₂ y (lawRead (lines.getD i []))) is zs → (∀ l ∈ rows, l ∈ (lines.filter fun l => l != [])) → All2 (fun r v => IsRule g₂ v r) (rows.map lawRead) zs := by
        intro rows is zs e h hm
        induction h generalizing rows with
        | nil => subst e; exact .nil
        | cons a _ ih =>
          subst e
          exact .cons (a (hm _ (.head _))) (ih _ rfl fun l hl => hm l (.tail _ hl))
      refine key (lines.filter fun l => l != []) _ zs ?_ h fun _ h => h
      rw [← hlen]
      have e1 : lines = (List.range lines.length).map fun i => lines.getD i [] := by
        apply List.ext_getElem (by simp)
        intro i h1 h2
        simp [h1]
      conv => rhs; rw [e1, List.filter_map]
      rfl
  rintro g₁ rv u₁ ⟨ys, hls, hall⟩
  refine BlF.assign EvF.noneC nS20_made ?_
  rintro g₂ y u₂ rfl
  exact BlF.nil fun g' u' => ⟨rfl, rv, rfl, RulesL.up ⟨ys, hls, hall⟩ (u₂.tr u')⟩
end
end Mine

end

section
open PySem PySem.W PyProof.Rows PySem.Calls
set_option Elab.async false
set_option linter.unusedVariables false
set_option maxRecDepth 100000
namespace Mine

structure OtherOk (xs : List Int) (bk : Nat → List Rule) : Prop where
  len : (tableO xs).length ≤ 50000
  lines : ∀ ln ∈ splitT (tableO xs) 10, ln.length ≤ 640
  bad : faultN xs < 6 → readLines (splitT (tableO xs) 10) = none
  good : ¬ faultN xs < 6 → ∃ rs, readLines (splitT (tableO xs) 10) = some rs ∧ bk = bkOf rs

theorem mores_len (n : Nat) : (mores.getD (n % 7) []).length ≤ 3 := (by decide : ∀ i, i < 7 → (mores.getD i []).length ≤ 3) _ (Nat.mod_lt _ (by decide))
theorem lawRule_en (n : Nat) : (lawRule n).en.length = 1 + n % 3 := letRow_len _ _
theorem lawRule_n (n : Nat) : 1 ≤ (lawRule n).n ∧ (lawRule n).n ≤ (lawRule n).en.length := by
  rw [lawRule_en]
  show 1 ≤ 1 + n / 2 % (1 + n % 3) ∧ 1 + n / 2 % (1 + n % 3) ≤ _
  have := Nat.mod_lt (n / 2) (show 0 < 1 + n % 3 by omega)
  omega
theorem lawRule_b (n : Nat) : (lawRule n).en.length ≤ 3 ∧ (lawRule n).mo.length ≤ 3 ∧ (lawRule n).n ≤ 3 := by
  have h1 := lawRule_n n
  have h2 := lawRule_en n
  exact ⟨by omega, mores_len n, by omega⟩
theorem rowOf_len (r : Rule) : (rowOf r).length ≤ r.en.length + r.mo.length + 3 := by
  unfold rowOf
  have la : (if r.al then [42] else ([] : List Nat)).length ≤ 1 := by split <;> simp
  have lo : (if r.on then [62] else ([46] : List Nat)).length ≤ 1 := by split <;> simp
  simp only [List.length_append, List.length_reverse, List.length_singleton]; omega
theorem told_len (r : Rule) (n : Nat) : (told r n).length ≤ r.en.length + r.mo.length + 25 := by
  unfold told
  have l2 : ∀ i, i < 2 → (pre2.getD i []).length ≤ 2 := by decide
  have l4 : ∀ i, i < 4 → (post4.getD i []).length ≤ 20 := by decide
  have l2' := l2 (n % 2) (by omega)
  have l4' := l4 (n / 2 % 4) (by omega)
  have := rowOf_len r
  simp only [List.length_append]; omega
theorem rowsO_len {xs : List Int} : (rowsO xs).length = 1 + takeN xs 1 % 5 := by unfold rowsO; simp
theorem rowsO_row {xs : List Int} : ∀ l ∈ rowsO xs, l.length ≤ 31 := fun l h => by
  obtain ⟨k, _, rfl⟩ := List.mem_map.mp h
  have h1 := told_len (lawRule (takeN xs (2 + k))) (takeN xs (2 + k) / 7)
  have h2 := lawRule_b (takeN xs (2 + k))
  omega
theorem faults_len (i : Nat) : (faults.getD i []).length ≤ 4 := by
  by_cases h : i < 6
  · exact (by decide : ∀ i, i < 6 → (faults.getD i []).length ≤ 4) i h
  · rw [List.getD_eq_getElem?_getD, List.getElem?_eq_none (by show 6 ≤ i; omega)]; simp
theorem rowsF_row {xs : List Int} : ∀ l ∈ rowsF xs, l.length ≤ 31 := fun l h => by
  unfold rowsF at h
  split at h
  · rw [List.mem_append, List.mem_append, List.mem_singleton] at h
    rcases h with (h | h) | h
    · exact rowsO_row l (List.mem_of_mem_take h)
    · subst h; have := faults_len (faultN xs); omega
    · exact rowsO_row l (List.mem_of_mem_drop h)
  · exact rowsO_row l h
theorem rowsF_len {xs : List Int} : (rowsF xs).length ≤ 6 := by
  unfold rowsF
  have h1 := rowsO_len (xs := xs)
  have h2 : takeN xs 1 % 5 < 5 := Nat.mod_lt _ (by decide)
  split
  · simp only [List.length_append, List.length_take, List.length_drop, List.length_singleton]; omega
  · omega

theorem StrsOf.append {a b : List (List Nat)} {vs ws : List Value} (h : StrsOf a vs) (k : StrsOf b ws) : StrsOf (a ++ b) (vs ++ ws) := by
  induction h with
  | nil => exact k
  | cons x _ ih => exact .cons x ih
theorem StrsOf.take {a : List (List Nat)} {vs : List Value} (h : StrsOf a vs) (n : Nat) : StrsOf (a.take n) (vs.take n) := by
  induction h generalizing n with
  | nil => cases n <;> exact .nil
  | cons x _ ih => cases n with
    | zero => exact .nil
    | succ n => exact .cons x (ih n)
theorem StrsOf.drop {a : List (List Nat)} {vs : List Value} (h : StrsOf a vs) (n : Nat) : StrsOf (a.drop n) (vs.drop n) := by
  induction h generalizing n with
  | nil => cases n <;> exact .nil
  | cons x r ih => cases n with
    | zero => exact .cons x r
    | succ n => exact ih n
def StrL (g : Heap) (v : Value) (ls : List (List Nat)) : Prop := ∃ vs, IsLst g v vs ∧ StrsOf ls vs
theorem StrL.up {g g' : Heap} {v ls} (x : StrL g v ls) (u : Up g g') : StrL g' v ls := let ⟨vs, a, b⟩ := x; ⟨vs, a.up u, b⟩

section
variable {w : World} {A : Around} {cf : Cfg} {e : Env} {B : Base} {g : Heap}

theorem law_other (N : GL cf) (R : Room A 6) (E : EnvIs e (scopeOf (stt 20))) (hfr : A.frames = some [e]) (hef : e.frame = some e.locals) (p : TopL w cf g) {sv : Value} {xs : List Int} {bk : Nat → List Rule} (hs : IntL g sv xs) (hx : xs.length ≤ 63) (O : OtherOk xs bk) :
    BlF w A e (scopeOf (stt 20)) B [some sv, some (.bool false), none, none, none, none, none, none, none, none, none, none] g (elseOf (S20 1))
      (fun g' f v => f = .ret (.bool true) ∨ (f = .next ∧ ¬ faultN xs < 6 ∧ ∃ rv x o4 o5 o6, v = [some sv, some (.bool false), some rv, some (.ref x), o4, o5, o6, none, none, none, none, none] ∧ RulesL g' rv (rulesO xs) ∧ StemAt cf w g' x bk)) := by
  have G := p.gd
  have L : ∀ m : Nat, m ≤ 1000000 → m ≤ sizeLine := fun m h => by rw [sizeLine_eq]; omega
  have R1 : Room A 1 := R.le (by omega)
  have h5 : takeN xs 1 % 5 < 5 := Nat.mod_lt _ (by decide)
  conv in elseOf _ => whnf
  refine BlF.assignC (EvF.listComp 1 R.handled (K := fun g v => IsRng g v (1 + takeN xs 1 % 5)) (EvF.range1 (EvF.bltin G nS20_range N.range rfl) (EvF.addN (EvF.num 1) (EvF.modN (EvF.take N p hs R1 nS20__law_take (EvF.cell nS20_script rfl) (EvF.num 1) (by omega) (by omega)) (EvF.num 5) (by decide))))
    [none, none, none, none, some sv] (by kernel_rfl!) (by decide +kernel) (by decide +kernel) (by decide +kernel) (by decide +kernel) (by decide +kernel)
    (Wl := fun g ys => All2 (fun r v => IsRule g v r) (rulesO xs) ys) ?_) nS20_rules ?_ (hs := swaps_cell E (x := "rules") (by decide +kernel))
  · rintro g₁ v u₁ hv
    refine ⟨_, _, fun _ => true, fun i g y => IsRule g y (lawRule (takeN xs (2 + i))), fun i g g' v u h => IsRule.up h u, Iter.range hv (by omega), L _ (by omega), ?_, ?_⟩
    · rintro cenv B' i y g₂ E' hi ⟨t, rfl⟩ ug
      have u02 := u₁.tr ug
      exact ⟨.inl ⟨rfl, rfl⟩, fun _ => EvF.call1 (n := 2) (i := 2) (W := fun g v => IsRule g v (lawRule (takeN xs (2 + i)))) (G.up u02) (by decide +kernel) N.lrule (p.up u02).f14 (R.le (by omega))
        (EvF.take (i := 3) N (p.up u02) (hs.up u02) R1 (by decide +kernel) (EvF.cell (i := 4) (by decide +kernel) rfl) (EvF.addN (EvF.num 2) (EvF.localN (i := 1) (by decide +kernel) rfl)) (by omega) (by omega)) Mono.vi fun g v u ⟨t2, e2⟩ => by
          rw [e2]; exact ⟨_, p.up (u02.tr u), c_rule N (takeN xs (2 + i)) t2⟩⟩
    · intro g₂ ys ug h
      unfold Sel at h
      rw [List.filter_eq_self.mpr (fun _ _ => rfl)] at h
      exact All2.map h
  rintro g₁ rv u₁ hrv
  have hrl : RulesL g₁ rv (rulesO xs) := hrv
  have hlen : (rulesO xs).length = 1 + takeN xs 1 % 5 := by unfold rulesO; simp
  refine BlF.step (StF.assignComp (kd := .local) (j := 4) 1 R.handled (K := fun g v => IsRng g v (1 + takeN xs 1 % 5)) (EvF.range1 (EvF.bltin (G.up u₁) nS20_range N.range rfl) (EvF.lenL (EvF.bltin (G.up u₁) nS20_len N.len rfl) ((EvF.cell nS20_rules rfl).weak fun g v u e => by subst e; rw [← hlen]; exact (hrl.up u).len) (L _ (by omega))))
    nS20_rows (.inl rfl) (by simp [setAt]) [none, none, none, none, some rv, some sv] (by kernel_rfl!) (by decide +kernel) (by decide +kernel) (by decide +kernel) (by decide +kernel) (by decide +kernel)
    (Wl := fun g ys => StrsOf (rowsO xs) ys) ?_ (swaps_local E (by decide +kernel) (by decide +kernel) (by decide +kernel))) ?_
  · rintro g₂ v u₂ hv
    refine ⟨_, _, fun _ => true, fun i g y => ∃ t, y = .str (T (told (lawRule (takeN xs (2 + i))) (takeN xs (2 + i) / 7))) t, fun i g g' v u h => h, Iter.range hv (by omega), L _ (by omega), ?_, ?_⟩
    · rintro cenv B' i y g₃ E' hi ⟨t, rfl⟩ ug
      have u03 := u₁.tr (u₂.tr ug)
      have hget : (rulesO xs)[i]? = some (lawRule (takeN xs (2 + i))) := by
        unfold rulesO
        rw [List.getElem?_map, List.getElem?_range hi]; rfl
      have hb := lawRule_b (takeN xs (2 + i))
      exact ⟨.inl ⟨rfl, rfl⟩, fun _ => EvF.call2 (n := 1) (i := 2) (V := fun g v => IsRule g v (lawRule (takeN xs (2 + i)))) (W := VT (told (lawRule (takeN xs (2 + i))) (takeN xs (2 + i) / 7))) (G.up u03) (by decide +kernel) N.told (p.up u03).f15 R1
        (EvF.itemL (k := i) (K := fun _ v => v = rv) (EvF.cell (i := 4) (by decide +kernel) rfl) Mono.eq (EvF.localN (i := 1) (by decide +kernel) rfl) (L _ (by omega)) fun g v u e => by
          subst e
          obtain ⟨vs, a, b⟩ := hrl.up ((u₂.tr ug).tr u)
          obtain ⟨y, hy, h⟩ := b.at hget
          exact ⟨vs, y, a, hy, h⟩) (fun g g' v u h => h.up u)
        (EvF.divN (EvF.take (i := 3) N (p.up u03) (hs.up u03) R1 (by decide +kernel) (EvF.cell (i := 5) (by decide +kernel) rfl) (EvF.addN (EvF.num 2) (EvF.localN (i := 1) (by decide +kernel) rfl)) (by omega) (by omega)) (EvF.num 7) (by decide) (by decide)) Mono.vi fun g v u ug h1 ⟨t2, e2⟩ => by
          rw [e2]; exact ⟨_, ⟨p.up (u03.tr ug), h1⟩, c_told N v (lawRule (takeN xs (2 + i))) (takeN xs (2 + i) / 7) t2 (by omega) (by omega) (by omega)⟩⟩
    · intro g₃ ys ug h
      unfold Sel at h
      rw [List.filter_eq_self.mpr (fun _ _ => rfl)] at h
      exact All2.map h
  rintro g₂ f v u₂ ⟨rfl, rows, ys, hls, hst, rfl⟩
  have hrows : StrL g₂ rows (rowsO xs) := ⟨ys, hls, hst⟩
  have u02 := u₁.tr u₂
  refine BlF.assign (EvF.modN (EvF.divN (EvF.take N (p.up u02) (hs.up u02) R1 nS20__law_take (EvF.cell nS20_script rfl) (EvF.num 1) (by omega) (by omega)) (EvF.num 5) (by decide) (by decide)) (EvF.num 30) (by decide)) nS20_fault ?_
  rintro g₃ y u₃ ⟨t₃, rfl⟩
  have hfe : takeN xs 1 / 5 % 30 = faultN xs := rfl
  rw [hfe]
  have hF : rowsF xs = if faultN xs < 6 then (rowsO xs).take (faultN xs % ((rowsO xs).length + 1)) ++ [faults.getD (faultN xs) []] ++ (rowsO xs).drop (faultN xs % ((rowsO xs).length + 1)) else rowsO xs := rfl
  have hrl0 := rowsO_len (xs := xs)
  have hFl := rowsF_len (xs := xs)
  have hFr := rowsF_row (xs := xs)
  obtain ⟨O1, O2, O3, O4⟩ := O
  have htab : tableO xs = joinT [10] (rowsF xs) := rfl
  generalize rowsF xs = rf at *
  generalize rowsO xs = ro at *
  have hF30 : faultN xs < 30 := Nat.mod_lt _ (by decide)
  generalize faultN xs = fn at *
  generalize tableO xs = tbl at *
  have u03 := u02.tr u₃
  refine BlF.step (M := fun g' f v => f = .next ∧ ∃ z, StrL g' z rf ∧ v = [some sv, some (.bool false), some rv, none, some z, some (.int (fn : Nat) t₃), none, none, none, none, none, none]) (StF.ite (TsF.ltN (EvF.localN nS20_fault rfl) (EvF.num 6)) (fun h => ?_) (fun h => ?_)) ?_
  · have h : fn < 6 := of_decide_eq_true h
    rw [if_pos h] at hF
    have hk : fn % (ro.length + 1) < ro.length + 1 := Nat.mod_lt _ (by omega)
    have hlenRows : EvF w A e (scopeOf (stt 20)) B [some sv, some (.bool false), some rv, none, some rows, some (.int (fn : Nat) t₃), none, none, none, none, none, none] g₃ (.Call (.Name "len" ⟨177, 34, 177, 37⟩) [.Name "rows" ⟨177, 38, 177, 42⟩] [] ⟨177, 34, 177, 43⟩) (VN ro.length) :=
      EvF.lenL (EvF.bltin (G.up u03) nS20_len N.len rfl) ((EvF.local nS20_rows rfl).weak fun g v u e => by subst e; obtain ⟨vs, a, b⟩ := hrows.up (u₃.tr u); exact ⟨vs, a, b.len.symm⟩) (L _ (by omega))
    have hlenRows2 : EvF w A e (scopeOf (stt 20)) B [some sv, some (.bool false), some rv, none, some rows, some (.int (fn : Nat) t₃), none, none, none, none, none, none] g₃ (.Call (.Name "len" ⟨177, 91, 177, 94⟩) [.Name "rows" ⟨177, 95, 177, 99⟩] [] ⟨177, 91, 177, 100⟩) (VN ro.length) :=
      EvF.lenL (EvF.bltin (G.up u03) nS20_len N.len rfl) ((EvF.local nS20_rows rfl).weak fun g v u e => by subst e; obtain ⟨vs, a, b⟩ := hrows.up (u₃.tr u); exact ⟨vs, a, b.len.symm⟩) (L _ (by omega))
    refine BlF.assign (EvF.addL (K := fun g v => StrL g v (ro.take (fn % (ro.length + 1)) ++ [faults.getD fn []])) (J := fun g v => StrL g v (ro.drop (fn % (ro.length + 1)))) (U := fun g v => StrL g v rf)
      (EvF.addL (K := fun g v => StrL g v (ro.take (fn % (ro.length + 1)))) (J := fun g v => StrL g v [faults.getD fn []])
        (EvF.sliceL (K := fun _ v => v = rows) (EvF.local nS20_rows rfl) Mono.eq EvP.nil (EvP.val (EvF.modN (EvF.localN nS20_fault rfl) (EvF.addN hlenRows (EvF.num 1)) (by omega))) fun g v u e => ?_) (fun g g' v u h => h.up u)
        ((EvF.list (V := fun _ vs => StrsOf [faults.getD fn []] vs) (fun _ _ _ _ h => h) ((EvL.one (V := VT (faults.getD fn [])) (EvF.itemL (k := fn) (K := fun g v => StrL g v faults) (EvF.callD (n := 1) (EvF.glob (G.up u03) nS20__law_faults N.faults) (p.up u03).f11 EvL.nil R1 fun g vs u e => by
            rw [e]; exact ⟨_, p.up (u03.tr u), c_faults N⟩) (fun g g' v u h => h.up u) (EvF.localN nS20_fault rfl) (L _ (by omega)) fun g v u ⟨vs, a, b⟩ => ?_) Mono.vs).weak fun g vs u ⟨v, e1, t, e2⟩ => by rw [e1]; exact .cons ⟨t, e2⟩ .nil) fun g vs h => by rw [← h.len]; exact L _ (by simp)).weak fun g v u h => h)
        fun g x y u ⟨vs, a, b⟩ ⟨us, c, d⟩ => ⟨vs, us, a, c, ?_, fun g' z u' hz => ⟨_, hz, b.append d⟩⟩) (fun g g' v u h => h.up u)
      (EvF.sliceL (K := fun _ v => v = rows) (EvF.local nS20_rows rfl) Mono.eq (EvP.val (EvF.modN (EvF.localN nS20_fault rfl) (EvF.addN hlenRows2 (EvF.num 1)) (by omega))) EvP.nil fun g v u e => ?_)
      fun g x y u ⟨vs, a, b⟩ ⟨us, c, d⟩ => ⟨vs, us, a, c, ?_, fun g' z u' hz => ⟨_, hz, by rw [hF]; exact b.append d⟩⟩) nS20_rows ?_
    · subst e
      obtain ⟨vs, a, b⟩ := hrows.up (u₃.tr u)
      have := b.len
      refine ⟨vs, a, L _ (by omega), fun g' y u' hy => ⟨_, hy, ?_⟩⟩
      rw [slicePick_upto']
      simpa using b.take _
    · obtain ⟨y, hy, h⟩ := b.item (k := fn) (by show fn < 6; omega)
      exact ⟨vs, y, a, hy, h⟩
    · have h1 := b.len
      have h2 := d.len
      rw [List.length_take] at h1
      simp only [List.length_singleton] at h2
      exact L _ (by omega)
    · subst e
      obtain ⟨vs, a, b⟩ := hrows.up (u₃.tr u)
      have := b.len
      refine ⟨vs, a, L _ (by omega), fun g' y u' hy => ⟨_, hy, ?_⟩⟩
      rw [slicePick_from']
      simpa using b.drop _
    · have h1 := b.len
      have h2 := d.len
      simp only [List.length_append, List.length_take, List.length_singleton, List.length_drop] at h1 h2
      exact L _ (by omega)
    rintro g₄ y u₄ hy
    exact BlF.nil fun g' u' => ⟨rfl, y, hy.up u', rfl⟩
  · have h : ¬ fn < 6 := of_decide_eq_false h
    rw [if_neg h] at hF
    subst hF
    exact BlF.nil fun g' u' => ⟨rfl, rows, hrows.up (u₃.tr u'), rfl⟩
  rintro g₄ f v u₄ ⟨rfl, z, hz, rfl⟩
  have u04 := u03.tr u₄
  refine BlF.assign (EvF.joinE (sep := [10]) (ls := rf) (EvF.sg 10) ((EvF.local nS20_rows rfl).weak fun g v u e => by subst e; exact hz.up u) 31 hFr (by simp only [List.length_singleton]; omega)) nS20_table ?_
  rintro g₅ y u₅ ⟨t₅, rfl⟩
  rw [← htab]
  have u05 := u04.tr u₅
  refine BlF.step (st_refused N R hfr hef (p.up u05) rfl rfl O1 O2 ?_) ?_
  · by_cases h : fn < 6
    · rw [O3 h, decide_eq_true h]; rfl
    · obtain ⟨rs, e1, _⟩ := O4 h
      rw [e1, decide_eq_false h]; rfl
  rintro g₆ f v u₆ ⟨rfl, rfl⟩
  have u06 := u05.tr u₆
  refine BlF.ite1 (TsF.ltN (EvF.localN nS20_fault rfl) (EvF.num 6)) (fun h => BlF.ret EvF.bool fun g y u hy => by rw [hy]; exact .inl rfl) (fun h => ?_)
  have h : ¬ fn < 6 := of_decide_eq_false h
  obtain ⟨rs, e1, e2⟩ := O4 h
  refine BlF.assign (EvF.callK (n := 5) (W := fun g v => ∃ x, v = .ref x ∧ StemAt cf w g x (bkOf rs)) (EvF.glob (G.up u06) nS20_PaiceHuskStemmer N.ph) (p.up u06).kin N.keepC (EvL.one (EvF.localT nS20_table rfl) Mono.vs) (R.le (by omega)) fun g vs u ⟨v, e3, t, e4⟩ => by
    rw [e3, e4]; exact ⟨_, (p.up (u06.tr u)).toTopA, gives_make N.toGN tbl t rs O1 O2 e1⟩) nS20_made ?_
  rintro g₇ y u₇ ⟨x, rfl, st⟩
  refine BlF.nil fun g' u' => .inr ⟨rfl, h, rv, x, _, _, _, rfl, hrl.up (u₂.tr (u₃.tr (u₄.tr (u₅.tr (u₆.tr (u₇.tr u')))))), ?_⟩
  rw [e2]
  exact st.up u'
end
end Mine

end

section
open PySem PySem.W PyProof.Rows PySem.Calls
set_option Elab.async false
set_option linter.unusedVariables false
set_option maxRecDepth 100000
namespace Mine

/-- the default table's lines, and the facts of it that the walk asks -/
structure DefOk (lines : List (List Nat)) : Prop where
  split : splitT defT 10 = lines
  len : defT.length ≤ 100000
  num : lines.length ≤ 1000
  read : ∀ l ∈ lines.filter (fun l => l != []), readable l = true
  rules : ∀ r ∈ (lines.filter fun l => l != []).map lawRead, r.en.length ≤ 100 ∧ r.mo.length ≤ 100 ∧ r.n ≤ r.en.length
  std : ∀ c, (stdBk c).length ≤ 1000 ∧ ∀ r ∈ stdBk c, r.mo.length ≤ 1000 ∧ r.en.length ≤ 1000

/-- what is to be shown of a script -/
structure ScriptOk (lines : List (List Nat)) (xs : List Int) : Prop where
  own : takeN xs 0 % 2 = 0 → ∀ k, k < 2 → TurnOk stdBk ((lines.filter fun l => l != []).map lawRead) xs (7 + 5 * k)
  other : takeN xs 0 % 2 ≠ 0 → ∃ bk, OtherOk xs bk ∧ (¬ faultN xs < 6 → (∀ c, (bk c).length ≤ 1000 ∧ ∀ r ∈ bk c, r.mo.length ≤ 1000 ∧ r.en.length ≤ 1000) ∧ ∀ k, k < 3 → TurnOk bk (rulesO xs) xs (7 + 5 * k))

theorem rulesO_b {xs : List Int} : ∀ r ∈ rulesO xs, r.en.length ≤ 100 ∧ r.mo.length ≤ 100 ∧ r.n ≤ r.en.length := fun r h => by
  obtain ⟨k, _, rfl⟩ := List.mem_map.mp h
  have h1 := lawRule_b (takeN xs (2 + k))
  have h2 := lawRule_n (takeN xs (2 + k))
  exact ⟨by omega, by omega, h2.2⟩

section
variable {w : World} {A : Around} {cf : Cfg} {e : Env} {B : Base} {g : Heap} {s : Shared}

theorem law_body (N : GL cf) (R : Room A 6) (E : EnvIs e (scopeOf (stt 20))) (hfr : A.frames = some [e]) (hef : e.frame = some e.locals) (p : TopL w cf g) {sv : Value} {xs : List Int} (hs : IntL g sv xs) (hx : xs.length ≤ 63)
    {lines : List (List Nat)} (D : DefOk lines) (S : ScriptOk lines xs) :
    BlF w A e (scopeOf (stt 20)) B [some sv, none, none, none, none, none, none, none, none, none, none, none] g (bodyOf (stt 20)) (fun _ f _ => f = .ret (.bool true)) := by
  have G := p.gd
  have R1 : Room A 1 := R.le (by omega)
  have R5 : Room A 5 := R.le (by omega)
  obtain ⟨D1, D2, D3, D4, D5, D6⟩ := D
  have hturn := @law_turns w A cf e B
  have hown := @law_own w A cf e B
  have hoth := @law_other w A cf e B
  conv at hturn in List.drop _ _ => whnf
  conv at hown in thenOf _ => whnf
  conv at hoth in elseOf _ => whnf
  conv in bodyOf _ => whnf
  refine BlF.assign (EvF.eqN (EvF.modN (EvF.take N p hs R1 nS20__law_take (EvF.cell nS20_script rfl) (EvF.num 0) (by omega) (by omega)) (EvF.num 2) (by decide)) (EvF.num 0)) nS20_own ?_
  rintro g₁ y u₁ rfl
  have pp := p.up u₁
  have hs1 := hs.up u₁
  cases ho : (takeN xs 0 % 2 == 0) with
  | true =>
    have hot : takeN xs 0 % 2 = 0 := by simpa using ho
    refine BlF.step (M := fun g' f v => f = .next ∧ ∃ rv, v = [some sv, some (.bool true), some rv, some .none, none, none, none, none, none, none, none, none] ∧ RulesL g' rv ((lines.filter fun l => l != []).map lawRead))
      (StF.ite (b := true) (TsF.localB nS20_own rfl) (fun _ => hown N R5 E pp N.defs D1 D2 D3 D4) (fun h => by cases h)) ?_
    rintro g₂ f v u₂ ⟨rfl, rv, rfl, hr⟩
    refine hturn N R5 (pp.up u₂) (own := true) (bk := stdBk) (hs1.up u₂) hr hx ?_ D5 (fun c => (D6 c).2) (fun c => (D6 c).1) (fun _ => rfl) (fun h => by cases h) (S.own hot) _ _ _ _ _ _ _ _
    rw [List.length_map]
    exact Nat.le_trans (List.length_filter_le _ _) D3
  | false =>
    have hot : takeN xs 0 % 2 ≠ 0 := by simpa using ho
    obtain ⟨bk, O, Ts⟩ := S.other hot
    refine BlF.step (M := fun g' f v => f = .ret (.bool true) ∨ (f = .next ∧ ¬ faultN xs < 6 ∧ ∃ rv x o4 o5 o6, v = [some sv, some (.bool false), some rv, some (.ref x), o4, o5, o6, none, none, none, none, none] ∧ RulesL g' rv (rulesO xs) ∧ StemAt cf w g' x bk))
      (StF.ite (b := false) (TsF.localB nS20_own rfl) (fun h => by cases h) (fun _ => hoth N R E hfr hef pp hs1 hx O)) ?_
    rintro g₂ f v u₂ (rfl | ⟨rfl, hf, rv, x, o4, o5, o6, rfl, hr, st⟩)
    · rfl
    · obtain ⟨T1, T2⟩ := Ts hf
      refine hturn N R5 (pp.up u₂) (own := false) (bk := bk) (hs1.up u₂) hr hx ?_ rulesO_b (fun c => (T1 c).2) (fun c => (T1 c).1) (fun h => by cases h) (fun _ => ⟨x, rfl, st⟩) T2 _ _ _ _ _ _ _ _
      have : (rulesO xs).length = 1 + takeN xs 1 % 5 := by unfold rulesO; simp
      omega

theorem c_law {R : Result → Shared → Prop} {a : Addr} (N : GL cf) (RA : Room A 7) (hA : A.frames = some []) (p : TopL w cf s.heap) (hf : FnAt s.heap a (stt 20) "law") {sv : Value} {xs : List Int} (hs : IntL s.heap sv xs) (hx : xs.length ≤ 63)
    {lines : List (List Nat)} (D : DefOk lines) (S : ScriptOk lines xs) (k : ∀ h' tk, Up s.heap h' → R (.ok (.ret (.bool true))) { s with heap := h', toks := tk }) :
    codeAny (model pw w) A (.call (.ref a) ⟨[sv], []⟩) R s := by
  refine enterE (g := s.heap) (B := ⟨s.heap, []⟩) (l := (["script"] : List Str).zip [sv]) (vals := [some sv, none, none, none, none, none, none, none, none, none, none, none]) Up.rfl' Up.rfl' (fun _ m => by cases m) (fun _ m => by cases m) hf RA p.gd.nolimit ?_ ?_ ndS20 fnS20 10 (by kernel_rfl!) fun e h₁ tk₁ u₁ hap R' hfr' hef F => ?_
  · intro fd h1 h2
    obtain ⟨⟩ := fd
    dsimp only at h1 h2
    subst h1 h2
    rfl
  · intro q hq
    exact (by decide +kernel : ∀ y ∈ [("script" : Str)], (scopeOf (stt 20)).names.lookup y = some .local ∨ (scopeOf (stt 20)).names.lookup y = some .cell) _ (List.of_mem_zip (a := q.1) (b := q.2) hq).1
  refine wpAny_mono ((law_body N R' F.env (hfr' _ hA) hef p hs hx D S).run { s with heap := h₁, toks := tk₁ } s.heap (fun f s' => R (.ok (.ret (retOf f))) s') (fun _ _ => False) Up.rfl' F fun f g' h' tk' vals' ug' F' hv => ?_) (fun _ _ q => q) fun _ _ q => q.elim
  subst hv
  exact k h' tk' F'.keep
end
end Mine

end

section
open PySem PySem.W PyProof.Rows PySem.Calls
set_option Elab.async false
set_option linter.unusedVariables false
set_option maxRecDepth 100000
namespace Mine

/-! ## the state behind the text's first six statements (printed by gen_state.lean, gen_h1.py) -/
def defStr : Str := constOf (stt 5)
noncomputable def ob_11 (P : Params) : Obj := (.mk (.type "tuple") none (.seq #[] 0) #[])
noncomputable def ob_12 (P : Params) : Obj := (.mk .none none (.fields #[]) #[])
noncomputable def ob_13 (P : Params) : Obj := (.mk (.type "code") none (.fields #[(.str "<module>" 182), (.str "<module>" 183), (.str "/claim/cut.py" 184), (.int 1 0), (.int 0 0), (.int 0 0), (.int 0 0), (.int 0 0), (.ref 11), (.bool false), (.int 181 0), (.ref 12), .none, .none, .none, .none, (.int 185 0), (.int 1 0), (.str "/claim/cut.py" 186)]) #[])
noncomputable def ob_14 (P : Params) : Obj := (.mk (.type "frame") none .plain #[(some (.ref 13)), (some (.ref 3)), (some (.ref 3)), none, (some (.str "__main__" 164)), none, (some (.ref 0))])
noncomputable def obT (P : Params) : BT := (.node (boot_o_0 P) (.node (boot_o_1 P) (.node (boot_o_3 P) (.node (boot_o_7 P) .nil .nil) (.node (ob_11 P) .nil .nil)) (.node (boot_o_5 P) (.node (boot_o_9 P) .nil .nil) (.node (ob_13 P) .nil .nil))) (.node (boot_o_2 P) (.node (boot_o_4 P) (.node (boot_o_8 P) .nil .nil) (.node (ob_12 P) .nil .nil)) (.node (boot_o_6 P) (.node (boot_o_10 P) .nil .nil) (.node (ob_14 P) .nil .nil))))
noncomputable def h_3 (P : Params) : Obj := (.mk (.type "dict") none (.dict #[(.mk (PyData.keyHash P "__name__") (.str "__name__" 165) (.str "whoosh.lang.paicehusk" 187)), (.mk (PyData.keyHash P "__doc__") (.str "__doc__" 166) .none), (.mk (PyData.keyHash P "__package__") (.str "__package__" 167) .none), (.mk (PyData.keyHash P "__loader__") (.str "__loader__" 168) (.builtin "__main__.__loader__#opaque")), (.mk (PyData.keyHash P "__spec__") (.str "__spec__" 169) .none), (.mk (PyData.keyHash P "__annotations__") (.str "__annotations__" 170) (.ref 6)), (.mk (PyData.keyHash P "__builtins__") (.str "__builtins__" 171) (.ref 4)), (.mk (PyData.keyHash P "__file__") (.str "__file__" 173) (.str "/claim/cut.py" 172)), (.mk (PyData.keyHash P "__cached__") (.str "__cached__" 174) .none), (.mk (PyData.keyHash P "_word_run") (.str "_word_run" 197) (.ref 21)), (.mk (PyData.keyHash P "_is_figure") (.str "_is_figure" 204) (.ref 28)), (.mk (PyData.keyHash P "_read_rule") (.str "_read_rule" 215) (.ref 35)), (.mk (PyData.keyHash P "PaiceHuskStemmer") (.str "PaiceHuskStemmer" 297) (.ref 78)), (.mk (PyData.keyHash P "defaultrules") (.str "defaultrules" 299) (.str defStr 298))] 14) #[])
noncomputable def h_12 (P : Params) : Obj := (.mk .none none (.fields #[(.int 2 0), (.int 0 0), (.ref 20), (.int 9 0), (.int 0 0), (.ref 27), (.int 11 0), (.int 0 0), (.ref 34), (.int 28 0), (.int 0 0), (.ref 41)]) #[])
noncomputable def h_15 (P : Params) : Obj := (.mk (.type "tuple") none (.seq #[] 0) #[])
noncomputable def h_16 (P : Params) : Obj := (.mk .none none (.fields #[]) #[])
noncomputable def h_17 (P : Params) : Obj := (.mk (.type "tuple") none (.seq #[(.str "text" 192), (.str "place" 193), (.str "sign" 194)] 0) #[])
noncomputable def h_18 (P : Params) : Obj := (.mk (.type "tuple") none (.seq #[] 0) #[])
noncomputable def h_19 (P : Params) : Obj := (.mk .none none (.func (.mk "_word_run" "_word_run" (argsOf (stt 1)) (.stmts (bodyOf (stt 1))) (scopeOf (stt 1)) 0 [] .none .none .none .none none .none .none 0)) #[])
noncomputable def h_20 (P : Params) : Obj := (.mk (.type "code") none (.fields #[(.str "_word_run" 189), (.str "_word_run" 190), (.str "/claim/cut.py" 191), (.int 2 0), (.int 2 0), (.int 0 0), (.int 0 0), (.int 3 0), (.ref 15), (.bool true), (.int 181 0), (.ref 16), .none, (.ref 17), (.ref 18), (.ref 19), (.int 195 0), (.int 2 0), (.str "/claim/cut.py" 196)]) #[])
noncomputable def h_21 (P : Params) : Obj := (.mk (.type "function") none (.func (.mk "_word_run" "_word_run" (argsOf (stt 1)) (.stmts (bodyOf (stt 1))) (scopeOf (stt 1)) 3 [] .none .none .none (.str "whoosh.lang.paicehusk" 187) none (.ref 20) .none 0)) #[])
noncomputable def h_22 (P : Params) : Obj := (.mk (.type "tuple") none (.seq #[] 0) #[])
noncomputable def h_23 (P : Params) : Obj := (.mk .none none (.fields #[]) #[])
noncomputable def h_24 (P : Params) : Obj := (.mk (.type "tuple") none (.seq #[(.str "sign" 201)] 0) #[])
noncomputable def h_25 (P : Params) : Obj := (.mk (.type "tuple") none (.seq #[] 0) #[])
noncomputable def h_26 (P : Params) : Obj := (.mk .none none (.func (.mk "_is_figure" "_is_figure" (argsOf (stt 2)) (.stmts (bodyOf (stt 2))) (scopeOf (stt 2)) 0 [] .none .none .none .none none .none .none 0)) #[])
noncomputable def h_27 (P : Params) : Obj := (.mk (.type "code") none (.fields #[(.str "_is_figure" 198), (.str "_is_figure" 199), (.str "/claim/cut.py" 200), (.int 9 0), (.int 1 0), (.int 0 0), (.int 0 0), (.int 3 0), (.ref 22), (.bool true), (.int 181 0), (.ref 23), .none, (.ref 24), (.ref 25), (.ref 26), (.int 202 0), (.int 9 0), (.str "/claim/cut.py" 203)]) #[])
noncomputable def h_28 (P : Params) : Obj := (.mk (.type "function") none (.func (.mk "_is_figure" "_is_figure" (argsOf (stt 2)) (.stmts (bodyOf (stt 2))) (scopeOf (stt 2)) 3 [] .none .none .none (.str "whoosh.lang.paicehusk" 187) none (.ref 27) .none 0)) #[])
noncomputable def h_29 (P : Params) : Obj := (.mk (.type "tuple") none (.seq #[] 0) #[])
noncomputable def h_30 (P : Params) : Obj := (.mk .none none (.fields #[]) #[])
noncomputable def h_31 (P : Params) : Obj := (.mk (.type "tuple") none (.seq #[(.str "line" 208), (.str "k" 209), (.str "p" 210), (.str "q" 211), (.str "r" 212)] 0) #[])
noncomputable def h_32 (P : Params) : Obj := (.mk (.type "tuple") none (.seq #[] 0) #[])
noncomputable def h_33 (P : Params) : Obj := (.mk .none none (.func (.mk "_read_rule" "_read_rule" (argsOf (stt 3)) (.stmts (bodyOf (stt 3))) (scopeOf (stt 3)) 0 [] .none .none .none .none none .none .none 0)) #[])
noncomputable def h_34 (P : Params) : Obj := (.mk (.type "code") none (.fields #[(.str "_read_rule" 205), (.str "_read_rule" 206), (.str "/claim/cut.py" 207), (.int 11 0), (.int 1 0), (.int 0 0), (.int 0 0), (.int 3 0), (.ref 29), (.bool true), (.int 181 0), (.ref 30), .none, (.ref 31), (.ref 32), (.ref 33), (.int 213 0), (.int 11 0), (.str "/claim/cut.py" 214)]) #[])
noncomputable def h_35 (P : Params) : Obj := (.mk (.type "function") none (.func (.mk "_read_rule" "_read_rule" (argsOf (stt 3)) (.stmts (bodyOf (stt 3))) (scopeOf (stt 3)) 3 [] .none .none .none (.str "whoosh.lang.paicehusk" 187) none (.ref 34) .none 0)) #[])
noncomputable def h_36 (P : Params) : Obj := (.mk (.type "tuple") none (.seq #[(.type "object")] 0) #[])
noncomputable def h_37 (P : Params) : Obj := (.mk (.type "builtin_function_or_method") none (.fields #[(.builtin "type.__prepare__"), (.type "type")]) #[])
noncomputable def h_38 (P : Params) : Obj := (.mk (.type "dict") none (.dict #[(.mk (PyData.keyHash P "__module__") (.str "__module__" 223) (.str "whoosh.lang.paicehusk" 187)), (.mk (PyData.keyHash P "__qualname__") (.str "__qualname__" 225) (.str "PaiceHuskStemmer" 224)), (.mk (PyData.keyHash P "__firstlineno__") (.str "__firstlineno__" 227) (.int 28 226)), (.mk (PyData.keyHash P "__init__") (.str "__init__" 235) (.ref 49)), (.mk (PyData.keyHash P "read_rules") (.str "read_rules" 252) (.ref 56)), (.mk (PyData.keyHash P "first_vowel") (.str "first_vowel" 258) (.ref 61)), (.mk (PyData.keyHash P "strip_prefix") (.str "strip_prefix" 267) (.ref 68)), (.mk (PyData.keyHash P "stem") (.str "stem" 288) (.ref 75)), (.mk (PyData.keyHash P "__static_attributes__") (.str "__static_attributes__" 290) (.ref 76))] 9) #[])
noncomputable def h_39 (P : Params) : Obj := (.mk (.type "tuple") none (.seq #[] 0) #[])
noncomputable def h_40 (P : Params) : Obj := (.mk .none none (.fields #[(.int 30 0), (.int 4 0), (.ref 48), (.int 34 0), (.int 4 0), (.ref 55), (.int 51 0), (.int 4 0), (.ref 60), (.int 58 0), (.int 4 0), (.ref 67), (.int 64 0), (.int 4 0), (.ref 74)]) #[])
noncomputable def h_41 (P : Params) : Obj := (.mk (.type "code") none (.fields #[(.str "PaiceHuskStemmer" 218), (.str "PaiceHuskStemmer" 219), (.str "/claim/cut.py" 220), (.int 28 0), (.int 0 0), (.int 0 0), (.int 0 0), (.int 0 0), (.ref 39), (.bool false), (.int 181 0), (.ref 40), .none, .none, .none, .none, (.int 221 0), (.int 28 0), (.str "/claim/cut.py" 222)]) #[])
noncomputable def h_42 (P : Params) : Obj := (.mk (.type "frame") none .plain #[(some (.ref 41)), (some (.ref 3)), (some (.ref 38)), none, (some (.str "whoosh.lang.paicehusk" 187)), none, (some (.ref 0))])
noncomputable def h_43 (P : Params) : Obj := (.mk (.type "tuple") none (.seq #[] 0) #[])
noncomputable def h_44 (P : Params) : Obj := (.mk .none none (.fields #[]) #[])
noncomputable def h_45 (P : Params) : Obj := (.mk (.type "tuple") none (.seq #[(.str "self" 231), (.str "ruletable" 232)] 0) #[])
noncomputable def h_46 (P : Params) : Obj := (.mk (.type "tuple") none (.seq #[] 0) #[])
noncomputable def h_47 (P : Params) : Obj := (.mk .none none (.func (.mk "__init__" "PaiceHuskStemmer.__init__" (argsOf (mth 0)) (.stmts (bodyOf (mth 0))) (scopeOf (mth 0)) 0 [] .none .none .none .none none .none .none 0)) #[])
noncomputable def h_48 (P : Params) : Obj := (.mk (.type "code") none (.fields #[(.str "__init__" 228), (.str "PaiceHuskStemmer.__init__" 229), (.str "/claim/cut.py" 230), (.int 30 0), (.int 2 0), (.int 0 0), (.int 0 0), (.int 3 0), (.ref 43), (.bool true), (.int 181 0), (.ref 44), .none, (.ref 45), (.ref 46), (.ref 47), (.int 233 0), (.int 30 0), (.str "/claim/cut.py" 234)]) #[])
noncomputable def h_49 (P : Params) : Obj := (.mk (.type "function") none (.func (.mk "__init__" "PaiceHuskStemmer.__init__" (argsOf (mth 0)) (.stmts (bodyOf (mth 0))) (scopeOf (mth 0)) 3 [] .none .none .none (.str "whoosh.lang.paicehusk" 187) none (.ref 48) .none 0)) #[])
noncomputable def h_50 (P : Params) : Obj := (.mk (.type "tuple") none (.seq #[] 0) #[])
noncomputable def h_51 (P : Params) : Obj := (.mk .none none (.fields #[]) #[])
noncomputable def h_52 (P : Params) : Obj := (.mk (.type "tuple") none (.seq #[(.str "self" 239), (.str "ruletable" 240), (.str "rules" 241), (.str "line" 242), (.str "match" 243), (.str "ending" 244), (.str "intact" 245), (.str "num" 246), (.str "append" 247), (.str "cont" 248), (.str "lastchar" 249)] 0) #[])
noncomputable def h_53 (P : Params) : Obj := (.mk (.type "tuple") none (.seq #[] 0) #[])
noncomputable def h_54 (P : Params) : Obj := (.mk .none none (.func (.mk "read_rules" "PaiceHuskStemmer.read_rules" (argsOf (mth 1)) (.stmts (bodyOf (mth 1))) (scopeOf (mth 1)) 0 [] .none .none .none .none none .none .none 0)) #[])
noncomputable def h_55 (P : Params) : Obj := (.mk (.type "code") none (.fields #[(.str "read_rules" 236), (.str "PaiceHuskStemmer.read_rules" 237), (.str "/claim/cut.py" 238), (.int 34 0), (.int 2 0), (.int 0 0), (.int 0 0), (.int 3 0), (.ref 50), (.bool true), (.int 181 0), (.ref 51), .none, (.ref 52), (.ref 53), (.ref 54), (.int 250 0), (.int 34 0), (.str "/claim/cut.py" 251)]) #[])
noncomputable def h_56 (P : Params) : Obj := (.mk (.type "function") none (.func (.mk "read_rules" "PaiceHuskStemmer.read_rules" (argsOf (mth 1)) (.stmts (bodyOf (mth 1))) (scopeOf (mth 1)) 3 [] .none .none .none (.str "whoosh.lang.paicehusk" 187) none (.ref 55) .none 0)) #[])
noncomputable def h_57 (P : Params) : Obj := (.mk (.type "tuple") none (.seq #[] 0) #[])
noncomputable def h_58 (P : Params) : Obj := (.mk .none none (.fields #[]) #[])
noncomputable def h_59 (P : Params) : Obj := (.mk .none none (.func (.mk "first_vowel" "PaiceHuskStemmer.first_vowel" (argsOf (mth 2)) (.stmts (bodyOf (mth 2))) (scopeOf (mth 2)) 0 [] .none .none .none .none none .none .none 0)) #[])
noncomputable def h_60 (P : Params) : Obj := (.mk (.type "code") none (.fields #[(.str "first_vowel" 253), (.str "PaiceHuskStemmer.first_vowel" 254), (.str "/claim/cut.py" 255), (.int 51 0), (.int 2 0), (.int 0 0), (.int 0 0), (.int 3 0), (.ref 57), (.bool true), (.int 181 0), (.ref 58), .none, .none, .none, (.ref 59), (.int 256 0), (.int 51 0), (.str "/claim/cut.py" 257)]) #[])
noncomputable def h_61 (P : Params) : Obj := (.mk (.type "function") none (.func (.mk "first_vowel" "PaiceHuskStemmer.first_vowel" (argsOf (mth 2)) (.stmts (bodyOf (mth 2))) (scopeOf (mth 2)) 3 [] .none .none .none (.str "whoosh.lang.paicehusk" 187) none (.ref 60) .none 0)) #[])
noncomputable def h_62 (P : Params) : Obj := (.mk (.type "tuple") none (.seq #[] 0) #[])
noncomputable def h_63 (P : Params) : Obj := (.mk .none none (.fields #[]) #[])
noncomputable def h_64 (P : Params) : Obj := (.mk (.type "tuple") none (.seq #[(.str "self" 262), (.str "word" 263), (.str "prefix" 264)] 0) #[])
noncomputable def h_65 (P : Params) : Obj := (.mk (.type "tuple") none (.seq #[] 0) #[])
noncomputable def h_66 (P : Params) : Obj := (.mk .none none (.func (.mk "strip_prefix" "PaiceHuskStemmer.strip_prefix" (argsOf (mth 3)) (.stmts (bodyOf (mth 3))) (scopeOf (mth 3)) 0 [] .none .none .none .none none .none .none 0)) #[])
noncomputable def h_67 (P : Params) : Obj := (.mk (.type "code") none (.fields #[(.str "strip_prefix" 259), (.str "PaiceHuskStemmer.strip_prefix" 260), (.str "/claim/cut.py" 261), (.int 58 0), (.int 2 0), (.int 0 0), (.int 0 0), (.int 3 0), (.ref 62), (.bool true), (.int 181 0), (.ref 63), .none, (.ref 64), (.ref 65), (.ref 66), (.int 265 0), (.int 58 0), (.str "/claim/cut.py" 266)]) #[])
noncomputable def h_68 (P : Params) : Obj := (.mk (.type "function") none (.func (.mk "strip_prefix" "PaiceHuskStemmer.strip_prefix" (argsOf (mth 3)) (.stmts (bodyOf (mth 3))) (scopeOf (mth 3)) 3 [] .none .none .none (.str "whoosh.lang.paicehusk" 187) none (.ref 67) .none 0)) #[])
noncomputable def h_69 (P : Params) : Obj := (.mk (.type "tuple") none (.seq #[] 0) #[])
noncomputable def h_70 (P : Params) : Obj := (.mk .none none (.fields #[]) #[])
noncomputable def h_71 (P : Params) : Obj := (.mk (.type "tuple") none (.seq #[(.str "self" 271), (.str "word" 272), (.str "rules" 273), (.str "k" 274), (.str "stem" 275), (.str "is_intact" 276), (.str "continuing" 277), (.str "pfv" 278), (.str "rulelist" 279), (.str "ending" 280), (.str "intact" 281), (.str "num" 282), (.str "append" 283), (.str "cont" 284), (.str "newlen" 285)] 0) #[])
noncomputable def h_72 (P : Params) : Obj := (.mk (.type "tuple") none (.seq #[] 0) #[])
noncomputable def h_73 (P : Params) : Obj := (.mk .none none (.func (.mk "stem" "PaiceHuskStemmer.stem" (argsOf (mth 4)) (.stmts (bodyOf (mth 4))) (scopeOf (mth 4)) 0 [] .none .none .none .none none .none .none 0)) #[])
noncomputable def h_74 (P : Params) : Obj := (.mk (.type "code") none (.fields #[(.str "stem" 268), (.str "PaiceHuskStemmer.stem" 269), (.str "/claim/cut.py" 270), (.int 64 0), (.int 2 0), (.int 0 0), (.int 0 0), (.int 3 0), (.ref 69), (.bool true), (.int 181 0), (.ref 70), .none, (.ref 71), (.ref 72), (.ref 73), (.int 286 0), (.int 64 0), (.str "/claim/cut.py" 287)]) #[])
noncomputable def h_75 (P : Params) : Obj := (.mk (.type "function") none (.func (.mk "stem" "PaiceHuskStemmer.stem" (argsOf (mth 4)) (.stmts (bodyOf (mth 4))) (scopeOf (mth 4)) 3 [] .none .none .none (.str "whoosh.lang.paicehusk" 187) none (.ref 74) .none 0)) #[])
noncomputable def h_76 (P : Params) : Obj := (.mk (.type "tuple") none (.seq #[(.str "rules" 289)] 0) #[])
noncomputable def h_77 (P : Params) : Obj := (.mk (.type "dict") none (.dict #[(.mk (PyData.keyHash P "__module__") (.str "__module__" 223) (.str "whoosh.lang.paicehusk" 187)), (.mk (PyData.keyHash P "__firstlineno__") (.str "__firstlineno__" 227) (.int 28 226)), (.mk (PyData.keyHash P "__init__") (.str "__init__" 235) (.ref 49)), (.mk (PyData.keyHash P "read_rules") (.str "read_rules" 252) (.ref 56)), (.mk (PyData.keyHash P "first_vowel") (.str "first_vowel" 258) (.ref 61)), (.mk (PyData.keyHash P "strip_prefix") (.str "strip_prefix" 267) (.ref 68)), (.mk (PyData.keyHash P "stem") (.str "stem" 288) (.ref 75)), (.mk (PyData.keyHash P "__static_attributes__") (.str "__static_attributes__" 290) (.ref 76)), (.mk (PyData.keyHash P "__dict__") (.str "__dict__" 292) (.ref 79)), (.mk (PyData.keyHash P "__weakref__") (.str "__weakref__" 294) (.ref 80)), (.mk (PyData.keyHash P "__doc__") (.str "__doc__" 295) .none)] 4) #[])
noncomputable def h_78 (P : Params) : Obj := (.mk (.type "type") none (.cls (.mk "PaiceHuskStemmer" [(.type "object")] [(.ref 78), (.type "object")] 77 "PaiceHuskStemmer" true [] [] false none false)) #[(some (.ref 36)), none, (some (.str "PaiceHuskStemmer" 216)), (some (.str "PaiceHuskStemmer" 224)), (some (.builtin "object.__new__")), (some (.bool true))])
noncomputable def h_79 (P : Params) : Obj := (.mk (.type "getset_descriptor") none (.fields #[(.str "__dict__" 291), (.ref 78), (.builtin "function.__dict__"), (.builtin "function.__dict__#set")]) #[])
noncomputable def h_80 (P : Params) : Obj := (.mk (.type "getset_descriptor") none (.fields #[(.str "__weakref__" 293), (.ref 78), (.builtin "ExceptionGroup.__weakref__"), .none]) #[])
noncomputable def h_81 (P : Params) : Obj := (.mk (.type "super") none (.fields #[(.ref 78), (.ref 78), (.ref 78)]) #[])
noncomputable def h_82 (P : Params) : Obj := (.mk (.type "builtin_function_or_method") none (.fields #[(.builtin "object.__init_subclass__"), (.ref 78)]) #[])
noncomputable def hT (P : Params) : BT := (.node (boot_o_0 P) (.node (boot_o_1 P) (.node (h_3 P) (.node (boot_o_7 P) (.node (h_15 P) (.node (h_31 P) (.node (h_63 P) .nil .nil) .nil) (.node (h_47 P) (.node (h_79 P) .nil .nil) .nil)) (.node (h_23 P) (.node (h_39 P) (.node (h_71 P) .nil .nil) .nil) (.node (h_55 P) .nil .nil))) (.node (ob_11 P) (.node (h_19 P) (.node (h_35 P) (.node (h_67 P) .nil .nil) .nil) (.node (h_51 P) .nil .nil)) (.node (h_27 P) (.node (h_43 P) (.node (h_75 P) .nil .nil) .nil) (.node (h_59 P) .nil .nil)))) (.node (boot_o_5 P) (.node (boot_o_9 P) (.node (h_17 P) (.node (h_33 P) (.node (h_65 P) .nil .nil) .nil) (.node (h_49 P) (.node (h_81 P) .nil .nil) .nil)) (.node (h_25 P) (.node (h_41 P) (.node (h_73 P) .nil .nil) .nil) (.node (h_57 P) .nil .nil))) (.node (ob_13 P) (.node (h_21 P) (.node (h_37 P) (.node (h_69 P) .nil .nil) .nil) (.node (h_53 P) .nil .nil)) (.node (h_29 P) (.node (h_45 P) (.node (h_77 P) .nil .nil) .nil) (.node (h_61 P) .nil .nil))))) (.node (boot_o_2 P) (.node (boot_o_4 P) (.node (boot_o_8 P) (.node (h_16 P) (.node (h_32 P) (.node (h_64 P) .nil .nil) .nil) (.node (h_48 P) (.node (h_80 P) .nil .nil) .nil)) (.node (h_24 P) (.node (h_40 P) (.node (h_72 P) .nil .nil) .nil) (.node (h_56 P) .nil .nil))) (.node (h_12 P) (.node (h_20 P) (.node (h_36 P) (.node (h_68 P) .nil .nil) .nil) (.node (h_52 P) .nil .nil)) (.node (h_28 P) (.node (h_44 P) (.node (h_76 P) .nil .nil) .nil) (.node (h_60 P) .nil .nil)))) (.node (boot_o_6 P) (.node (boot_o_10 P) (.node (h_18 P) (.node (h_34 P) (.node (h_66 P) .nil .nil) .nil) (.node (h_50 P) (.node (h_82 P) .nil .nil) .nil)) (.node (h_26 P) (.node (h_42 P) (.node (h_74 P) .nil .nil) .nil) (.node (h_58 P) .nil .nil))) (.node (ob_14 P) (.node (h_22 P) (.node (h_38 P) (.node (h_70 P) .nil .nil) .nil) (.node (h_54 P) .nil .nil)) (.node (h_30 P) (.node (h_46 P) (.node (h_78 P) .nil .nil) .nil) (.node (h_62 P) .nil .nil))))))
def lf : Life := .mk [] [] [] 0 [] [] false #[] [] 0 false false false 0 [2000, 10, 10] false 0 true [] [] 0 false
def dr0 : Drawn := .mk 0 0 0 0
def env6 : Env := { scope := pw.main.scope, locals := mainNs, globals := mainNs, cells := [], code := .ref 13, frame := some 14 }
def code6 : Code := .body (behindTheImports pw) env6
noncomputable def sA (w : World) (os : OsState) : SharedT := ⟨obT w.params, 15, lf, Array.mk [], dr0, 187, os⟩
noncomputable def s6 (w : World) (os : OsState) : SharedT := ⟨hT w.params, 83, lf, Array.mk [], dr0, 300, os⟩
def p6 : Pos := ⟨90, 0, 90, 12⟩
theorem pre_go (w : World) (os : OsState) : topGo treeTable pw w 11 (some (.ref 6)) 12 ⟨boot_heap w.params, Array.mk [], boot_drawn, boot_toks, os⟩ (topStub pw) =
    some ((sA w os).abs, ⟨denote treeTable code6, code6, default, [topFrame default]⟩) := by kernel_rfl!
theorem seg6 (w : World) (os : OsState) : segRunT treeTable pw w 11 (some (.ref 6)) 1 486 (sA w os) (piecesOf ((behindTheImports pw).take 6) env6 code6 default [topFrame default]) =
    some (.next, s6 w os, code6, p6) := by kernel_rfl!
end Mine

end

section
open PySem PySem.W PyProof.Rows PySem.Calls
set_option Elab.async false
set_option linter.unusedVariables false
set_option maxRecDepth 100000
namespace Mine

section
variable {tb : String → Option Builtin} {p : Program} {w : World} {n₀ : Nat} {ann : Option Value}

/-- what a step that is let by leaves -/
structure Left (n₀ : Nat) (ann : Option Value) (s s' : Shared) : Prop where
  life : s'.heap.life = s.heap.life
  os : s'.os = s.os
  keep : ∀ b o, b < n₀ → b ≠ mainNs → b ≠ cStatics → ann ≠ some (.ref b) → s.heap.get? b = some o → s'.heap.get? b = some o
theorem Left.rfl' {s : Shared} : Left n₀ ann s s := ⟨rfl, rfl, fun _ _ _ _ _ _ e => e⟩
theorem Left.tr {a b c : Shared} (x : Left n₀ ann a b) (y : Left n₀ ann b c) : Left n₀ ann a c :=
  ⟨y.life.trans x.life, y.os.trans x.os, fun b o h1 h2 h3 h4 e => y.keep b o h1 h2 h3 h4 (x.keep b o h1 h2 h3 h4 e)⟩

theorem left_step {s s' : Shared} {t t' : Thread} (hk : stepOk n₀ ann t = true) (hr : s.asleep) (hs : step (denote tb) p w s t = .go s' t') :
    sstep (denote tb) p w (.single s t) = .go (.single s' t') ∧ Left n₀ ann s s' := by
  have hc : t.calm = true := (Bool.and_eq_true_iff.mp hk).1
  have hu := (Bool.and_eq_true_iff.mp hk).2
  refine ⟨?_, step_life (denote tb) p w s s' t t' hs, step_os_same hs ?_, fun b o h1 h2 h3 h4 h5 => ?_⟩
  · cases sstep_single (denote tb) p w s t hc hr with
    | inl e => rw [e, hs]; rfl
    | inr e => rw [hs] at e; cases e
  · cases h : t.cur with
    | os => rw [h] at hu; cases hu
    | _ => rfl
  · rw [PySem.step_heap (denote tb) p w s s' t t' hs]
    cases h : t.cur with
    | update a q f k =>
      rw [h] at hu
      have ne : b ≠ a := fun z => by
        subst z
        simp only [Bool.or_eq_true, Nat.ble_eq, beq_iff_eq] at hu
        rcases hu with ((z | z) | z) | z
        · omega
        · exact h2 z
        · exact h3 z
        · exact h4 z
      exact (Heap.get?_update_ne _ _ _ _ ne).trans h5
    | alloc o' k => exact Heap.get?_push_of_some o' h5
    | _ => exact h5

theorem schedN_add {den : Code → Sem Fin} : ∀ (m n : Nat) (c c' : Config), schedN den p w m c = .running c' → schedN den p w (m + n) c = schedN den p w n c'
  | 0, n, c, c', h => by cases h; rw [Nat.zero_add]
  | m + 1, n, c, c', h => by
    rw [show m + 1 + n = m + n + 1 by omega]
    simp only [schedN] at h ⊢
    cases e : sstep den p w c with
    | go c₂ => rw [e] at h; exact schedN_add m n c₂ c' h
    | halt o s => rw [e] at h; cases h

theorem topGo_reach : ∀ (n : Nat) (s : Shared) (t : Thread) (s' : Shared) (t' : Thread), s.asleep → topGo tb p w n₀ ann n s t = some (s', t') →
    (∃ m, schedN (denote tb) p w m (.single s t) = .running (.single s' t')) ∧ Left n₀ ann s s'
  | 0, s, t, s', t', _, h => by
    cases h
    exact ⟨⟨0, rfl⟩, Left.rfl'⟩
  | n + 1, s, t, s', t', hr, h => by
    unfold topGo at h
    cases hth : through t with
    | true => rw [hth] at h; cases h
    | false =>
      rw [hth] at h
      cases hk : stepOk n₀ ann t with
      | false => rw [hk] at h; cases h
      | true =>
        rw [hk] at h
        cases hs : step (denote tb) p w s t with
        | halt o s₂ => rw [hs] at h; cases h
        | go s₂ t₂ =>
          rw [hs] at h
          obtain ⟨e, L⟩ := left_step hk hr hs
          obtain ⟨⟨m, hm⟩, L'⟩ := topGo_reach n s₂ t₂ s' t' (Shared.asleep_of_life L.life hr) h
          exact ⟨⟨m + 1, by simp only [schedN, e]; exact hm⟩, L.tr L'⟩

/-- a piece that was run alone is run with what stands around it -/
theorem seg_goes {α : Type} {B : List Frame} {K' : α → Sem Fin} {H' : Value → Sem Fin} {gd : Bool → Bool} {lv : List Value → List Value} {res : α → Flow} (hB : splitAtGen B = none) (n : Nat) :
    ∀ (s : Shared) (t t' : Thread) (f : Flow) (s' : Shared) (c' : Code) (q' : Pos), Rel2 (fun a => .pure (.done (res a))) K' deadEnd H' gd lv B t t' → segRun tb p w n₀ ann B.length n s t = some (f, s', c', q') →
    ∃ a m, res a = f ∧ topGo tb p w n₀ ann m s t' = some (s', ⟨K' a, c', q', B⟩) := by
  induction n with
  | zero => intro s t t' f s' c' q' _ h; cases h
  | succ n ih =>
    rintro s ⟨cur, code, pos, st⟩ ⟨cur', code', pos', st'⟩ f s' c' q' ⟨e1, e2, R⟩ h
    dsimp only at e1 e2 R
    subst e1 e2
    unfold segRun at h
    cases he : endAt B.length ⟨cur, code, pos, st⟩ with
    | some g =>
      rw [he] at h
      cases h
      rcases R with ⟨rfl, rfl, x, rfl, rfl⟩ | ⟨rfl, F⟩
      · cases x with
        | pure a =>
          simp only [endAt, Sem.wrap, beq_self_eq_true, Option.some.injEq] at he
          exact ⟨a, 0, he, rfl⟩
        | _ => simp [endAt, Sem.wrap] at he
      · have ne : (st.length == B.length) = false := beq_eq_false_iff_ne.mpr (Nat.ne_of_gt F.longer.1)
        simp only [endAt, ne] at he
        cases he
    | none =>
      rw [he] at h
      cases hk : stepOk n₀ ann ⟨cur, code, pos, st⟩ with
      | false => rw [hk] at h; cases h
      | true =>
        rw [hk] at h
        cases hs : step (denote tb) p w s ⟨cur, code, pos, st⟩ with
        | halt o s₂ => rw [hs] at h; cases h
        | go s₂ t₂ =>
          rw [hs] at h
          have key : (stepOk n₀ ann ⟨cur', code, pos, st'⟩ = true ∧ through ⟨cur', code, pos, st'⟩ = false) ∧ ∃ t₂', step (denote tb) p w s ⟨cur', code, pos, st'⟩ = .go s₂ t₂' ∧ Rel2 (fun a => .pure (.done (res a))) K' deadEnd H' gd lv B t₂ t₂' := by
            rcases R with ⟨rfl, rfl, x, rfl, rfl⟩ | ⟨rfl, F⟩
            · have np : ∀ a, x ≠ .pure a := fun a z => by subst z; simp [endAt, Sem.wrap] at he
              have nr : ∀ v, x ≠ .raise v := fun v z => by
                subst z
                obtain ⟨hp, gs, dw, tk, os⟩ := s
                simp only [Sem.wrap, step] at hs
                cases hs
              exact ⟨okOuter np nr hk, step_outer hB np hs⟩
            · exact ⟨okInner hB F hk, step_inner hB F hs⟩
          obtain ⟨⟨k1, k2⟩, t₂', k3, R'⟩ := key
          obtain ⟨a, m, ha, hm⟩ := ih s₂ t₂ t₂' f s' c' q' R' h
          refine ⟨a, m + 1, ha, ?_⟩
          unfold topGo
          rw [k2, k1, k3]
          exact hm
end
end Mine

end

section
open PySem PySem.W PyProof.Rows PySem.Calls
set_option Elab.async false
set_option linter.unusedVariables false
set_option maxRecDepth 100000
namespace Mine

def rest6 : List Stmt := (behindTheImports pw).drop 6
noncomputable abbrev s0 (w : World) (os : OsState) : Shared := ⟨boot_heap w.params, Array.mk [], boot_drawn, boot_toks, os⟩
theorem block6 : blockStart (behindTheImports pw) env6 = pure () := by
  unfold blockStart
  rw [show hasAnns (behindTheImports pw) = false by kernel_rfl!, show docOf (behindTheImports pw) = none by kernel_rfl!]
  rfl
theorem den6 : denote treeTable code6 = (execs ((behindTheImports pw).take 6 ++ rest6) env6).wrap doneF (leaveH env6) id id := by
  rw [show (behindTheImports pw).take 6 ++ rest6 = behindTheImports pw from List.take_append_drop 6 _]
  show denote treeTable (.body (behindTheImports pw) env6) = _
  rw [body_wrap, block6]
  rfl
def K6 : Flow → Sem Fin := fun f => match f with | .next => (execs rest6 env6).wrap doneF (leaveH env6) id id | f => doneF f
theorem den6' : denote treeTable code6 = (execs ((behindTheImports pw).take 6) env6).wrap K6 (leaveH env6) id id := den6.trans (execs_app_wrap _ _ _ _ _ _)
/-- the run comes to the seventh statement -/
theorem to6 (w : World) (os : OsState) (hr : (s0 w os).asleep) : (∃ m, schedN (denote table) pw w m (.single (s0 w os) (topStub pw)) = .running (.single (s6 w os).abs (restOf rest6 env6 code6 p6 [topFrame default]))) ∧
    Left 11 (some (.ref 6)) (s0 w os) (s6 w os).abs := by
  obtain ⟨⟨m1, h1⟩, L1⟩ := topGo_reach _ _ _ _ _ hr (pre_go w os)
  have h2 := segRun_of (seg6 w os)
  have hR : Rel2 (fun f : Flow => Sem.pure (.done (id f))) K6 deadEnd (leaveH env6) id id [topFrame default] (piecesOf ((behindTheImports pw).take 6) env6 code6 default [topFrame default]) ⟨denote treeTable code6, code6, default, [topFrame default]⟩ :=
    ⟨rfl, rfl, .inl ⟨rfl, rfl, execs ((behindTheImports pw).take 6) env6, rfl, den6'⟩⟩
  obtain ⟨a, m2, ha, h2⟩ := seg_goes (res := id) rfl 486 _ _ _ _ _ _ _ hR h2
  have ha : a = .next := ha
  subst ha
  obtain ⟨⟨m3, h3⟩, L2⟩ := topGo_reach _ _ _ _ _ (Shared.asleep_of_life L1.life hr) h2
  refine ⟨⟨m1 + m3, ?_⟩, L1.tr L2⟩
  rw [table_eq_tree, schedN_add _ _ _ _ h1]
  exact h3
end Mine

end

section
open PySem PySem.W PyProof.Rows PySem.Calls
set_option Elab.async false
set_option linter.unusedVariables false
set_option maxRecDepth 100000
namespace Mine

def A6 : Around := { depth := 400, frames := none, guards := none, units := 100 }
theorem in6 : (Ctx.of code6 [topFrame default]).In A6 :=
  ⟨rfl, by decide +kernel, (fun l h => by cases h), (fun g h => by cases h), by decide +kernel⟩
theorem room6 : Room A6 8 := ⟨rfl, by decide, by decide⟩

theorem restOf_cur (l : List Stmt) (e : Env) : ((execs l e).onRaise (leaving e)).bind (fun f => (Sem.pure (Fin.done f) : Sem Fin)) = (execs l e).wrap doneF (leaveH e) id id := by
  rw [Sem.bind_eq_wrap, Sem.onRaise_eq_wrap, Sem.wrap_wrap]
  rfl
theorem runNI_running' {den : Code → Sem Fin} {prog : Program} {w : World} {n : Nat} {s s' : Shared} {t t' : Thread} (h : runNI den prog w n s t = .running s' t') (hg : s'.gens = #[]) :
    ∃ τ, runN den prog w n s t = .running s' τ ∧ τ.forget = t'.forget := by
  have e := runNK_same den prog w n (s₁ := s) (s₂ := s) (t₁ := t) (t₂ := t) rfl rfl
  rw [runNI_running h] at e
  cases hr : runN den prog w n s t with
  | halted o σ => rw [hr] at e; cases e
  | running σ τ =>
    rw [hr] at e
    simp only [Run.forget, Run.running.injEq] at e
    exact ⟨τ, by rw [Shared.eq_of_forget_eq e.1.symm hg], e.2.symm⟩

/-- from the seventh statement to the text's end -/
theorem wp_through {w : World} {s : Shared} (hz : s.asleep) {l : List Stmt} {q : Pos} {R : Shared → Prop}
    (h : wpAny (model pw w) A6 (execs l env6) (fun f s' => f = .next ∧ s'.gens = #[] ∧ R s') (fun _ _ => False) s) :
    ∃ n s' τ, schedN (denote table) pw w n (.single s (restOf l env6 code6 q [topFrame default])) = .running (.single s' τ) ∧ through τ = true ∧ s'.gens = #[] ∧ s'.heap.life = s.heap.life ∧ R s' := by
  have hw : wpAny (model pw w) A6 ((execs l env6).wrap doneF (leaveH env6) id id) (fun f s' => f = .done .next ∧ s'.gens = #[] ∧ R s') (fun _ _ => False) s := by
    rw [← restOf_cur]
    refine wpAny_bind (wpAny_onRaise (wpAny_mono h (fun f s' q => ?_) fun _ _ q => q.elim))
    exact wpAny_pure ⟨by rw [q.1], q.2⟩
  obtain ⟨s', p', leaf, ⟨n, hc⟩, hl⟩ := wp_comes (Ctx.fits_of code6 [topFrame default]) _ _ _ q s (hw _ q in6)
  rcases hl with ⟨a, rfl, rfl, hg, hR⟩ | ⟨_, _, hf⟩
  case inr => exact hf.elim
  have st1 : (model pw w).step s' ⟨.pure (.done .next), code6, p', [topFrame default]⟩ = .go s' ⟨.pure (.done (.ret .none)), .builtin "claim.caller" {}, default, []⟩ := rfl
  have st2 : (model pw w).step s' ⟨.pure (.done (.ret .none)), .builtin "claim.caller" {}, default, []⟩ = .halt (.done (.ret .none)) s' := by
    refine (Model.step_quiet (M := model pw w) (s := s') (t := ⟨.pure (.done (.ret .none)), .builtin "claim.caller" {}, default, []⟩) (by decide +kernel)).trans ?_
    show finish (.done (.ret .none)) s' = _
    unfold finish
    rw [show leftWithCleanup s'.gens = false by rw [hg]; decide +kernel]
    rfl
  have r1 : runNI (denote table) pw w (n + 1) s (restOf l env6 code6 q [topFrame default]) = .running s' ⟨.pure (.done (.ret .none)), .builtin "claim.caller" {}, default, []⟩ := by
    have := runN_snoc (M := model pw w) (s' := s') (th' := ⟨.pure (.done .next), code6, p', [topFrame default]⟩) hc
    rw [st1] at this
    exact this
  have r2 : runNI (denote table) pw w (n + 2) s (restOf l env6 code6 q [topFrame default]) = .halted (.done (.ret .none)) s' := by
    have := runN_snoc (M := model pw w) r1
    rw [st2] at this
    exact this
  obtain ⟨τ, hτ, hf⟩ := runNI_running' r1 hg
  obtain ⟨s'', hn, hfo, hcalm⟩ := runNI_real _ _ _ r2 rfl
  have hlife : s'.heap.life = s.heap.life := by
    have e := runN_life _ _ _ hn
    rwa [Shared.eq_of_forget_eq hfo hg] at e
  refine ⟨n + 1, s', τ, ?_, ?_, hg, hlife, hR⟩
  · have hne : ∀ k s₂, runN (denote table) pw w k s (restOf l env6 code6 q [topFrame default]) ≠ .halted (.unsupported "lifetime:generator-with-cleanup-left-suspended") s₂ := by
      intro k s₂ hk
      have a := runN_mono _ _ _ (n + 2) k _ _ _ _ hn
      have b := runN_mono _ _ _ k (n + 2) _ _ _ _ hk
      rw [Nat.add_comm, b] at a
      cases a
    rw [schedN_eq_runN _ _ _ s _ hz ⟨hcalm, hne⟩, hτ]
    rfl
  · obtain ⟨c1, c2, c3, c4⟩ := τ
    simp only [Thread.forget, Thread.mk.injEq, forgetAll] at hf
    obtain ⟨rfl, rfl, rfl, h4⟩ := hf
    have : c4 = [] := by
      cases c4 with
      | nil => rfl
      | cons x r => cases h4
    subst this
    rfl
end Mine

end

section
open PySem PySem.W PyProof.Rows PySem.Calls
set_option Elab.async false
set_option linter.unusedVariables false
set_option maxRecDepth 100000
namespace Mine

/-! ## what lies there before the seventh statement -/
noncomputable def h6 (P : Params) : Heap := absHeap (hT P) 83 lf
theorem h6_get {P : Params} {a : Addr} {o : Obj} (h : a < 83) (g : (hT P).get a = some o) (hl : alive o = some o) : (h6 P).get? a = some o := (abs_get h g).trans hl
theorem g2 (P : Params) : (h6 P).get? 2 = some (boot_o_2 P) := h6_get (by decide) rfl rfl
theorem g3 (P : Params) : (h6 P).get? 3 = some (h_3 P) := h6_get (by decide) rfl rfl
theorem g12 (P : Params) : (h6 P).get? 12 = some (h_12 P) := h6_get (by decide) rfl rfl
theorem g13 (P : Params) : (h6 P).get? 13 = some (ob_13 P) := h6_get (by decide) rfl rfl
theorem g21 (P : Params) : (h6 P).get? 21 = some (h_21 P) := h6_get (by decide) rfl rfl
theorem g28 (P : Params) : (h6 P).get? 28 = some (h_28 P) := h6_get (by decide) rfl rfl
theorem g35 (P : Params) : (h6 P).get? 35 = some (h_35 P) := h6_get (by decide) rfl rfl
theorem g49 (P : Params) : (h6 P).get? 49 = some (h_49 P) := h6_get (by decide) rfl rfl
theorem g56 (P : Params) : (h6 P).get? 56 = some (h_56 P) := h6_get (by decide) rfl rfl
theorem g61 (P : Params) : (h6 P).get? 61 = some (h_61 P) := h6_get (by decide) rfl rfl
theorem g68 (P : Params) : (h6 P).get? 68 = some (h_68 P) := h6_get (by decide) rfl rfl
theorem g75 (P : Params) : (h6 P).get? 75 = some (h_75 P) := h6_get (by decide) rfl rfl
theorem g77 (P : Params) : (h6 P).get? 77 = some (h_77 P) := h6_get (by decide) rfl rfl
theorem g78 (P : Params) : (h6 P).get? 78 = some (h_78 P) := h6_get (by decide) rfl rfl

noncomputable def mg6 (P : Params) : Str → Option Value := (h6 P).nsMap mainGlobals
def ad6 : Nat → Addr
  | 1 => 21 | 2 => 28 | 3 => 35 | 100 => 49 | 101 => 56 | 102 => 61 | 103 => 68 | 104 => 75 | _ => 0
noncomputable def Kf (P : Params) : Frag := [(77, h_77 P), (78, h_78 P), (49, h_49 P), (56, h_56 P), (61, h_61 P), (68, h_68 P), (75, h_75 P)]
noncomputable def cf6 (P : Params) : Cfg := ⟨mg6 P, ad6, Kf P, 78⟩
theorem kf_in (P : Params) : (Kf P).In (h6 P) := Frag.in_of (as := (Kf P).map (·.1)) rfl (by
  show [(h6 P).get? 77, (h6 P).get? 78, (h6 P).get? 49, (h6 P).get? 56, (h6 P).get? 61, (h6 P).get? 68, (h6 P).get? 75] = _
  rw [g77, g78, g49, g56, g61, g68, g75]; rfl)
theorem gn6 (P : Params) : GN (cf6 P) where
  wr := by kernel_rfl!
  isf := by kernel_rfl!
  rr := by kernel_rfl!
  ph := by kernel_rfl!
  len := by kernel_rfl!
  int := by kernel_rfl!
  min := by kernel_rfl!
  exc := by kernel_rfl!
  hga := by kernel_rfl!
  hgm := by kernel_rfl!
  hsa := by kernel_rfl!
  k0 := by kernel_rfl!
  k1 := by kernel_rfl!
  k2 := by kernel_rfl!
  k3 := by kernel_rfl!
  k4 := by kernel_rfl!
  kr := by kernel_rfl!
  t0 := by kernel_rfl!
  t1 := by kernel_rfl!
  t2 := by kernel_rfl!
  t3 := by kernel_rfl!
  t4 := by kernel_rfl!
  makes := by kernel_rfl!
  plain := by kernel_rfl!
  dict := by kernel_rfl!
theorem keepC6 (P : Params) : keepIn (Kf P) (.ref 78) = true := by kernel_rfl!
theorem gd6 (P : Params) : Gd (mg6 P) (h6 P) where
  g := .of_isNs (by kernel_rfl!)
  b := ⟨_, .of_isNs (by kernel_rfl!), Heap.of_bltView (by kernel_rfl!) (by kernel_rfl!)⟩
  nolimit := .of_ok (by kernel_rfl!)
  nodigits := Heap.noDigits_of_ok (by kernel_rfl!)
theorem fn6 {P : Params} {a : Addr} {o : Obj} {fd : FuncData} {st : Stmt} {q : Str} (g : (h6 P).get? a = some o) (hd : o.data = .func fd)
    (h : fd.params = argsOf st ∧ fd.body = .stmts (bodyOf st) ∧ fd.scope = scopeOf st ∧ fd.globals = mainGlobals ∧ fd.closure = [] ∧ fd.defaults = .none ∧ fd.kwdefaults = .none ∧ fd.builtins = builtinsNs ∧ fd.qualname = q)
    {c : Addr} (hc : fd.code = .ref c) {oc : Obj} {vs : Array Value} {t : Tok} (gc : (h6 P).get? c = some oc) (hv : oc.data = .fields vs) (h1 : vs[1]? = some (.str q t)) : FnAt (h6 P) a st q :=
  let ⟨a1, a2, a3, a4, a5, a6, a7, a8, a9⟩ := h
  ⟨o, fd, g, hd, a1, a2, a3, a4, a5, a6, a7, a8, a9, c, oc, vs, t, hc, gc, hv, h1⟩
theorem top6 (P : Params) : TopA (cf6 P) (h6 P) where
  gd := gd6 P
  kin := kf_in P
  f1 := fn6 (g21 P) rfl ⟨rfl, rfl, rfl, rfl, rfl, rfl, rfl, rfl, rfl⟩ rfl (h6_get (a := 20) (by decide) rfl rfl) rfl rfl
  f2 := fn6 (g28 P) rfl ⟨rfl, rfl, rfl, rfl, rfl, rfl, rfl, rfl, rfl⟩ rfl (h6_get (a := 27) (by decide) rfl rfl) rfl rfl
  f3 := fn6 (g35 P) rfl ⟨rfl, rfl, rfl, rfl, rfl, rfl, rfl, rfl, rfl⟩ rfl (h6_get (a := 34) (by decide) rfl rfl) rfl rfl
  m0 := fn6 (g49 P) rfl ⟨rfl, rfl, rfl, rfl, rfl, rfl, rfl, rfl, rfl⟩ rfl (h6_get (a := 48) (by decide) rfl rfl) rfl rfl
  m1 := fn6 (g56 P) rfl ⟨rfl, rfl, rfl, rfl, rfl, rfl, rfl, rfl, rfl⟩ rfl (h6_get (a := 55) (by decide) rfl rfl) rfl rfl
  m2 := fn6 (g61 P) rfl ⟨rfl, rfl, rfl, rfl, rfl, rfl, rfl, rfl, rfl⟩ rfl (h6_get (a := 60) (by decide) rfl rfl) rfl rfl
  m3 := fn6 (g68 P) rfl ⟨rfl, rfl, rfl, rfl, rfl, rfl, rfl, rfl, rfl⟩ rfl (h6_get (a := 67) (by decide) rfl rfl) rfl rfl
  m4 := fn6 (g75 P) rfl ⟨rfl, rfl, rfl, rfl, rfl, rfl, rfl, rfl, rfl⟩ rfl (h6_get (a := 74) (by decide) rfl rfl) rfl rfl
end Mine

end

section
open PySem PySem.W PyProof.Rows PySem.Calls
set_option Elab.async false
set_option linter.unusedVariables false
set_option maxRecDepth 100000
namespace Mine

/-! ## the module's own statements -/
/-- all but the names of the text and its table of codes -/
def lo (h : Heap) : Heap := hideAll h [3, 12]
theorem lo_get {h : Heap} {a : Addr} {o : Obj} (g : h.get? a = some o) (h3 : a ≠ 3) (h12 : a ≠ 12) : (lo h).get? a = some o := hideAll_get _ g (by simp [h3, h12])
theorem lo_le {h : Heap} : Up (lo h) h := fun _ _ z => of_hideAll _ z
theorem lo_ne {h : Heap} {a : Addr} {o : Obj} (g : (lo h).get? a = some o) : a ≠ 3 ∧ a ≠ 12 := by
  have q : ∀ b : Addr, b ∈ ([3, 12] : List Addr) → (lo h).get? b = none := fun b m => hideAll_none _ m
  refine ⟨fun z => ?_, fun z => ?_⟩
  · subst z; rw [q 3 (by simp)] at g; cases g
  · subst z; rw [q 12 (by simp)] at g; cases g
theorem lo_up {h h' : Heap} (k : ∀ b o, b ≠ 12 → b ≠ mainGlobals → h.get? b = some o → h'.get? b = some o) : Up (lo h) (lo h') := fun b o z => by
  obtain ⟨h3, h12⟩ := lo_ne z
  exact lo_get (k b o h12 h3 (lo_le _ _ z)) h3 h12
theorem lo_of_up {h h' : Heap} (u : Up h h') : Up (lo h) (lo h') := lo_up fun b o _ _ z => u b o z

structure Md (P : Params) (h : Heap) (mg : Str → Option Value) (ps : Array Value) (names : List Str) : Prop where
  main : h.Main mg 13 12 ps
  keep : Up (lo (h6 P)) (lo h)
  others : ∀ x, x ∉ names → mg x = mg6 P x
def upd (mg : Str → Option Value) (x : Str) (v : Value) : Str → Option Value := fun y => if y = x then some v else mg y

theorem main6 (P : Params) : (h6 P).Main (mg6 P) 13 12 #[.int 2 0, .int 0 0, .ref 20, .int 9 0, .int 0 0, .ref 27, .int 11 0, .int 0 0, .ref 34, .int 28 0, .int 0 0, .ref 41] where
  g := (gd6 P).g
  code := ⟨ob_13 P, _, _, _, _, _, _, _, _, h_12 P, g13 P, rfl, rfl, rfl, rfl, rfl, rfl, g12 P, rfl, trivial, by decide⟩
  low := ⟨by decide, by decide⟩
  bmod := ⟨4, boot_o_4 P, by kernel_rfl!, by decide, by decide, by decide, h6_get (by decide) rfl rfl, rfl, rfl, rfl⟩

theorem md6 (P : Params) : Md P (h6 P) (mg6 P) #[.int 2 0, .int 0 0, .ref 20, .int 9 0, .int 0 0, .ref 27, .int 11 0, .int 0 0, .ref 34, .int 28 0, .int 0 0, .ref 41] [] :=
  ⟨main6 P, Up.rfl', fun _ _ => rfl⟩
theorem Md.grow {P : Params} {h h' : Heap} {mg ps names} (X : Md P h mg ps names) (u : Up h h') : Md P h' mg ps names :=
  ⟨⟨X.main.g.keeps u, X.main.code.keeps u, X.main.low, X.main.bmod.keeps u⟩, X.keep.tr (lo_of_up u), X.others⟩
theorem upd_others {P : Params} {mg : Str → Option Value} {names : List Str} {x : Str} {v : Value} (h : ∀ y, y ∉ names → mg y = mg6 P y) : ∀ y, y ∉ x :: names → upd mg x v y = mg6 P y := fun y hy => by
  have hne : ¬ y = x := fun z => hy (by rw [z]; exact .head _)
  show (if y = x then some v else mg y) = _
  rw [if_neg hne]
  exact h y fun m => hy (.tail _ m)

section
variable {w : World} {A : Around} {E : Value → Shared → Prop} {s : Shared} {P : Params} {mg : Str → Option Value} {ps : Array Value} {names : List Str}

theorem md_store {x : Str} {v : Value} {Q : Unit → Shared → Prop} (X : Md P s.heap mg ps names) (hloc : pw.main.scope.names.lookup x = some .local) (hnb : x ≠ "__builtins__")
    (k : ∀ h' tk, Md P h' (upd mg x v) ps (x :: names) → Up (lo s.heap) (lo h') → Q () { s with heap := h', toks := tk }) : wpAny (model pw w) A (storeName env6 x v) Q E s := by
  refine wpAny_storeName_local (env := env6) hloc X.main.g (fun h' hg' hs' => ?_) (by decide +kernel)
  obtain ⟨bm, o, hbm, hne0, hneG, hneP, hbo, hrest⟩ := X.main.bmod
  have u : Up (lo s.heap) (lo h') := lo_up fun b o _ hG e => (hs'.2 b hG).trans e
  refine k h' _ ⟨⟨hg', X.main.code.sameBut hs' (Nat.ne_of_gt X.main.low.1) (Nat.ne_of_gt X.main.low.2), X.main.low, bm, o, ?_, hne0, hneG, hneP, (hs'.2 _ hneG).trans hbo, hrest⟩, X.keep.tr u, upd_others X.others⟩ u
  show (if ("__builtins__" : Str) = x then some v else mg "__builtins__") = _
  rw [if_neg (Ne.symm hnb)]
  exact hbm

def NamedAt (h : Heap) (a : Addr) (n : Str) : Prop := ∃ o fd, h.get? a = some o ∧ o.data = .func fd ∧ fd.name = n
/-- a def of the text -/
theorem md_def {name : Str} {args : Arguments} {body : List Stmt} {sc : Scope} {pos : Pos} {Q : Flow → Shared → Prop} {st : Stmt} (X : Md P s.heap mg ps names) (hst : st = .FunctionDef name args body [] none [] sc none name pos)
    (hside : args.kwonlyargs = [] ∧ args.kw_defaults = [] ∧ args.defaults = [] ∧ annTrees args none env6 = [] ∧ pw.main.scope.names.lookup name = some .local ∧
      qualnameIn { scope := pw.main.scope, locals := mainGlobals, globals := mainGlobals, cells := [] } name name = name) (hfree : ∀ x ∈ sc.names, x.2 ≠ .free) (hnb : name ≠ "__builtins__") (hnf : codeAmong pos ps.toList = none)
    (k : ∀ a c' h' tk, Md P h' (upd mg name (.ref a)) (ps ++ #[rawInt pos.line, rawInt pos.col, .ref c']) (name :: names) → Up (lo s.heap) (lo h') → FnAt (lo h') a st name → NamedAt (lo h') a name → Q .next { s with heap := h', toks := tk }) :
    wpAny (model pw w) A (exec st env6) Q E s := by
  subst hst
  obtain ⟨h1, h2, h3, h4, h5, h6'⟩ := hside
  have hbig : ∀ b, s.heap.objs.size ≤ b → b ≠ 3 ∧ b ≠ 12 := fun b hb => by
    have hl := X.main.code.lt.2
    have hl2 : (12 : Nat) < s.heap.objs.size := hl
    exact ⟨fun z => by subst z; exact absurd hb (by show ¬ s.heap.objs.size ≤ 3; omega), fun z => by subst z; exact absurd hb (by show ¬ s.heap.objs.size ≤ 12; omega)⟩
  refine wpAny_defStmt0 (prog := pw) (c := 13) (Pl := 12) (F := 14) h1 h2 (by rw [h3]; intro _ m; cases m) h4 hfree h5 h6' X.main (fun a c' doc dV vs h' tk ha hm hf hcv hD hcd keep => ?_) hnb (by rfl) hnf
  have u : Up (lo s.heap) (lo h') := lo_up keep
  refine k a c' h' tk ⟨hm, X.keep.tr u, upd_others X.others⟩ u ?_ ⟨_, _, lo_get hf (hbig a ha).1 (hbig a ha).2, rfl, rfl⟩
  obtain ⟨hc1, c2, oc, vc, t, e2, gc, dc, vc1⟩ := hcd
  cases e2
  obtain ⟨a3, a12⟩ := hbig a ha
  obtain ⟨c3, c12⟩ := hbig c' hc1
  have hv : vs = [] := by
    rw [h3] at hcv
    cases vs with
    | nil => rfl
    | cons _ _ => exact hcv.elim
  subst hv
  have hdV : dV = .none := by
    rcases hD with ⟨_, e⟩ | ⟨e, _⟩
    · exact e
    · exact absurd rfl e
  subst hdV
  exact ⟨_, _, lo_get hf a3 a12, rfl, rfl, rfl, rfl, rfl, rfl, rfl, rfl, rfl, rfl, c', oc, vc, t, rfl, lo_get gc c3 c12, dc, vc1⟩

/-- a text is bound -/
theorem md_text {x y : Str} {k' : Nat} {p1 p2 p3 : Pos} {Q : Flow → Shared → Prop} (X : Md P s.heap mg ps names) (hloc : pw.main.scope.names.lookup x = some .local) (hnb : x ≠ "__builtins__")
    (k : ∀ t h' tk, Md P h' (upd mg x (.str y t)) ps (x :: names) → Up (lo s.heap) (lo h') → Q .next { s with heap := h', toks := tk }) :
    wpAny (model pw w) A (exec (.Assign [.Name x p1] (.Constant (.str y) k' p2) p3) env6) Q E s :=
  wpAny_Assign_Name (wpAny_Constant_str (md_store (s := { s with toks := s.toks + 1 }) X hloc hnb fun h' tk X' u => k _ h' tk X' u))

theorem loadMain {x : Str} {v : Value} {Q : Value → Shared → Prop} (g : s.heap.Ns mainGlobals mg) (hv : mg x = some v) (h : Q v s) : wpAny (model pw w) A (loadName env6 x) Q E s := by
  have e : loadName env6 x = loadGlobal env6 x := by
    unfold loadName
    rfl
  rw [e]
  unfold loadGlobal
  refine wpAny_bind (wpAny_nsGet g ?_)
  rw [hv]
  exact wpAny_pure h
end
end Mine

end

section
open PySem PySem.W PyProof.Rows PySem.Calls
set_option Elab.async false
set_option linter.unusedVariables false
set_option maxRecDepth 100000
namespace Mine

/-! ## splitting at one sign, plainly -/
def splitL (c : Nat) : List Nat → List (List Nat)
  | [] => [[]]
  | x :: r => match x == c with
    | true => [] :: splitL c r
    | false => match splitL c r with
      | [] => [[x]]
      | h :: t => (x :: h) :: t
def joinL (c : Nat) : List (List Nat) → List Nat
  | [] => []
  | [x] => x
  | x :: y :: r => x ++ c :: joinL c (y :: r)
theorem splitL_ne (c : Nat) : ∀ l, ∃ h t, splitL c l = h :: t
  | [] => ⟨_, _, rfl⟩
  | x :: r => by
    unfold splitL
    cases x == c with
    | true => exact ⟨_, _, rfl⟩
    | false =>
      obtain ⟨h, t, e⟩ := splitL_ne c r
      rw [e]; exact ⟨_, _, rfl⟩
theorem splitL_app (c : Nat) : ∀ (x : List Nat), c ∉ x → ∀ r h t, splitL c r = h :: t → splitL c (x ++ r) = (x ++ h) :: t
  | [], _, _, _, _, e => e
  | a :: x, n, r, h, t, e => by
    have n1 : (a == c) = false := beq_eq_false_iff_ne.mpr fun z => n (z ▸ .head _)
    show splitL c (a :: (x ++ r)) = _
    unfold splitL
    rw [n1, splitL_app c x (fun m => n (.tail _ m)) r h t e]
    rfl
theorem splitL_join (c : Nat) : ∀ (ps : List (List Nat)), ps ≠ [] → (∀ p ∈ ps, c ∉ p) → splitL c (joinL c ps) = ps
  | [], h, _ => absurd rfl h
  | [x], _, hf => by
    show splitL c x = [x]
    have := splitL_app c x (hf x (.head _)) [] [] [] rfl
    rwa [List.append_nil] at this
  | x :: y :: r, _, hf => by
    show splitL c (x ++ c :: joinL c (y :: r)) = _
    have ih := splitL_join c (y :: r) (by simp) fun p m => hf p (.tail _ m)
    have e : splitL c (c :: joinL c (y :: r)) = [] :: (y :: r) := by
      unfold splitL
      rw [beq_self_eq_true, ih]
    rw [splitL_app c x (hf x (.head _)) _ _ _ e, List.append_nil]
theorem join_cps (c : Nat) : ∀ ps : List Str, (Str.join (T [c]) ps).cps.toList = joinL c (ps.map (·.cps.toList))
  | [] => rfl
  | [x] => rfl
  | x :: y :: r => by
    have ih := join_cps c (y :: r)
    show (x ++ T [c] ++ Str.join (T [c]) (y :: r)).cps.toList = x.cps.toList ++ c :: joinL c _
    rw [Str.cps_append, Str.cps_append, Array.toList_append, Array.toList_append, ih]
    simp [T]
theorem split_ne (x y : Str) : Txt.split x y ≠ [] := by
  unfold Txt.split
  split
  · simp
  · split
    · simp
    · rw [StrLaws.partsBetween_eq]
      obtain ⟨p, r, e⟩ := StrLaws.partsFrom_ne x y.length 0 (Builtin.Str.occurrences x y 0 x.length (x.length + 1))
      rw [e]; simp
theorem splitT_eq (l : List Nat) (c : Nat) : splitT l c = splitL c l := by
  have h1 := StrLaws.join_split (T l) (T [c])
  have h2 := congrArg (fun s : Str => s.cps.toList) h1

  rw [join_cps, T_cps] at h2
  have h3 := splitL_join c ((Txt.split (T l) (T [c])).map (·.cps.toList)) (by simpa using split_ne _ _) (by
    intro p hp
    obtain ⟨q, hq, rfl⟩ := List.mem_map.mp hp
    exact StrLaws.split_free (T l) c q hq)
  rw [h2] at h3
  exact h3.symm
end Mine

end

section
open PySem PySem.W PyProof.Rows PySem.Calls
set_option Elab.async false
set_option linter.unusedVariables false
set_option maxRecDepth 100000
namespace Mine

/-! ## the default table: its signs are read off the row -/
/-- the row's text, as a list of signs -/
noncomputable def dChars : { cs : List Char // constOf (stt 5) = Str.ofString (String.ofList cs) } := ⟨_, rfl⟩
noncomputable def dT : List Nat := dChars.1.map Char.toNat
noncomputable def dLines : List (List Nat) := splitL 10 dT
/-- the table's rules, as the text itself reads them -/
noncomputable def dRules : List Rule := (readLines dLines).getD []
theorem ofList_cps (l : List Char) : (Str.ofString (String.ofList l)).cps.toList = l.map Char.toNat := by
  rw [Str.ofString_eq_toList]; simp
theorem d_text : defT = dT := by
  show (constOf (stt 5)).cps.toList = _
  rw [dChars.2, ofList_cps]
  rfl
theorem d_split : splitT defT 10 = dLines := by
  rw [d_text, splitT_eq]
  rfl
end Mine

end

section
open PySem PySem.W PyProof.Rows PySem.Calls
set_option Elab.async false
set_option linter.unusedVariables false
set_option maxRecDepth 100000
namespace Mine
theorem d_some : (readLines dLines).isSome = true := by kernel_rfl!
theorem d_read : readLines dLines = some dRules := by
  have h := d_some
  unfold dRules
  cases e : readLines dLines with
  | none => rw [e] at h; cases h
  | some x => rfl
end Mine

end

section
open PySem PySem.W PyProof.Rows PySem.Calls
set_option Elab.async false
set_option linter.unusedVariables false
set_option maxRecDepth 100000
namespace Mine
theorem headOf_eq (l : List Nat) : headOf l = (splitL 32 l).getD 0 [] := by unfold headOf; rw [splitT_eq]
theorem d_law : (dLines.filter fun l => l != []).map lawRead = dRules := by
  have e : (dLines.filter fun l => l != []).map lawRead = (dLines.filter fun l => l != []).map fun l =>
    let h := (splitL 32 l).getD 0 []
    let p := placeOf h
    ⟨(if endsT (h.take p) [42] then (h.take p).take ((h.take p).length - 1) else h.take p).reverse, endsT (h.take p) [42], NumText.digitsVal [h.getD p 0], (h.drop (p + 1)).take (h.length - 1 - (p + 1)), endsT h [62]⟩ := by
    apply List.map_congr_left
    intro l _
    unfold lawRead
    rw [headOf_eq]
  rw [e]
  kernel_rfl!
theorem d_readable : ∀ l ∈ dLines.filter (fun l => l != []), readable l = true := by
  have e : ∀ l, readable l = (decide (l.length ≤ 1000) && (!(splitL 32 l).isEmpty && (decide (((splitL 32 l).getD 0 []).length ≤ 1000) && (!(digPlaces ((splitL 32 l).getD 0 [])).isEmpty && decide (placeOf ((splitL 32 l).getD 0 []) + 1 ≤ ((splitL 32 l).getD 0 []).length - 1))))) := fun l => by
    unfold readable
    rw [headOf_eq, splitT_eq]
  intro l hl
  rw [e l]
  revert l
  decide +kernel
theorem stdBk_eq : stdBk = bkOf dRules := by
  unfold stdBk
  rw [d_split, d_read]
  rfl
theorem d_bounds : ∀ r ∈ dRules, r.en.length ≤ 100 ∧ r.mo.length ≤ 100 ∧ r.n ≤ r.en.length ∧ r.en ≠ [] := by decide +kernel
theorem d_ok : DefOk dLines where
  split := d_split
  len := by rw [d_text]; decide +kernel
  num := by decide +kernel
  read := d_readable
  rules := fun r h => by
    rw [d_law] at h
    obtain ⟨a, b, c, _⟩ := d_bounds r h
    exact ⟨a, b, c⟩
  std := fun c => by
    rw [stdBk_eq]
    refine ⟨Nat.le_trans (List.length_filter_le _ _) (by decide +kernel), fun r h => ?_⟩
    obtain ⟨a, b, _⟩ := d_bounds r (List.mem_filter.mp h).1
    omega
theorem d_lines : ∀ ln ∈ dLines, ln.length ≤ 640 := by decide +kernel
end Mine

end

section
open PySem PySem.W PyProof.Rows PySem.Calls
set_option Elab.async false
set_option linter.unusedVariables false
set_option maxRecDepth 100000
namespace Mine

/-! ## the stemmer lies beside the text's names -/
section
variable {w : World} {g : Heap}
theorem lo_seq {P : Params} (g3' : g.get? 3 = some (h_3 P)) (g12' : g.get? 12 = some (h_12 P)) {a : Addr} {o : Obj} {vs : Array Value} {n : Nat} (h : g.get? a = some o) (hd : o.data = .seq vs n) : (lo g).get? a = some o := by
  refine lo_get h (fun z => ?_) (fun z => ?_)
  · subst z
    rw [g3'] at h; cases h; cases hd
  · subst z
    rw [g12'] at h; cases h; cases hd
theorem lo_lst {P : Params} (g3' : g.get? 3 = some (h_3 P)) (g12' : g.get? 12 = some (h_12 P)) {v : Value} {vs : List Value} (x : IsLst g v vs) : IsLst (lo g) v vs :=
  let ⟨a, e, o, h, hc, n, hd⟩ := x; ⟨a, e, o, lo_seq g3' g12' h hd, hc, n, hd⟩
theorem lo_tup {P : Params} (g3' : g.get? 3 = some (h_3 P)) (g12' : g.get? 12 = some (h_12 P)) {v : Value} {vs : List Value} (x : Mine.IsTup g v vs) : Mine.IsTup (lo g) v vs :=
  let ⟨a, e, o, h, hc, n, hd⟩ := x; ⟨a, e, o, lo_seq g3' g12' h hd, hc, n, hd⟩
theorem stem_lo {cf : Cfg} (hC : cf.C = 78) {x : Addr} (g3' : g.get? 3 = some (h_3 w.params)) (g12' : g.get? 12 = some (h_12 w.params)) (S : StemAt cf w g x stdBk) : StemAt cf w (lo g) x stdBk := by
  obtain ⟨d, ⟨dx, es, n, h1, h2, h3, h4, h5, h6', h7⟩, hsm, f, hm, hf⟩ := S.at_
  refine ⟨d, ⟨dx, es, n, lo_get h1 (fun z => ?_) (fun z => ?_), lo_get h2 (fun z => ?_) (fun z => ?_), h3, h4, h5, h6', h7⟩, hsm, f, ?_, fun c => (hf c).imp id ?_⟩
  · subst z; rw [g3'] at h1
    have := congrArg (fun o : Option Obj => o.map (·.cls)) h1
    cases this
  · subst z; rw [g12'] at h1
    have := congrArg (fun o : Option Obj => o.map (·.cls)) h1
    cases this
  · subst z; rw [g3'] at h2
    have e1 := congrArg (fun o : Option Obj => o.map (·.data)) h2
    have e2 : es.toArray = (match (h_3 w.params).data with | .dict es _ => es | _ => #[]) := by
      have e3 : (h_3 w.params).data = (dictOf es n).data := Option.some.inj e1
      rw [e3]
    have e4 : es = (match (h_3 w.params).data with | .dict es _ => es.toList | _ => []) := by
      have := congrArg Array.toList e2
      rw [List.toList_toArray] at this
      exact this
    rw [e4] at h3
    have e5 : getL "rules" (match (h_3 w.params).data with | .dict es _ => es.toList | _ => []) = some none := by kernel_rfl!
    rw [e5] at h3
    cases h3
  · subst z; rw [g12'] at h2
    have := congrArg (fun o : Option Obj => o.map (·.cls)) h2
    cases this
  · obtain ⟨o, es', ep, q1, q2, q3, q4, q5⟩ := hm
    refine ⟨o, es', ep, lo_get q1 (fun z => ?_) (fun z => ?_), q2, q3, q4, q5⟩
    · subst z; rw [g3'] at q1
      cases q1
      have hb : stdBk 97 ≠ [] := by rw [stdBk_eq]; decide +kernel
      rcases hf 97 with ⟨z, _⟩ | ⟨_, v, vs, hv, _⟩
      · exact hb z
      · rw [← q5] at hv
        have e6 : es' = (match (h_3 w.params).data with | .dict es _ => es | _ => #[]) := by rw [q3]
        rw [e6] at hv
        have e7 : findBy (PySem.strKind pw w).is (match (h_3 w.params).data with | .dict es _ => es | _ => #[]) (T [97]) = none := by kernel_rfl!
        rw [e7] at hv
        cases hv
    · subst z; rw [g12'] at q1; cases q1; cases q3
  · rintro ⟨a, v, vs, b, l, r⟩
    exact ⟨a, v, vs, b, lo_lst g3' g12' l, r.imp fun _ _ ⟨t1, t2, t3, t⟩ => ⟨t1, t2, t3, lo_tup g3' g12' t⟩⟩
end
end Mine

end

section
open PySem PySem.W PyProof.Rows PySem.Calls
set_option Elab.async false
set_option linter.unusedVariables false
set_option maxRecDepth 100000
namespace Mine

def callOf : Stmt → Expr
  | .Assign _ v _ => v
  | _ => default
section
variable {w : World} {s : Shared}
/-- the seventh statement's call -/
theorem eval6 {Q : Value → Shared → Prop} (hs : s.heap = h6 w.params)
    (k : ∀ x h' tk, Up (h6 w.params) h' → StemAt (cf6 w.params) w (lo h') x stdBk → Q (.ref x) { s with heap := h', toks := tk }) :
    wpAny (model pw w) A6 (eval (callOf (stt 6)) env6) Q (fun _ _ => False) s := by
  obtain ⟨h, gn, dr, tk0, os⟩ := s
  have hs : h = h6 w.params := hs
  subst hs
  conv in callOf _ => whnf
  have p := top6 w.params
  obtain ⟨td, hd⟩ : ∃ t, mg6 w.params "defaultrules" = some (.str (T defT) t) := ⟨298, by
    have : T defT = defStr := (T_of _).symm
    rw [this]
    kernel_rfl!⟩
  refine wpAny_Call_NameR (wpAny_Name (loadMain p.gd.g (gn6 w.params).ph ?_) (by decide +kernel))
  refine callWith_of (P := (Kf w.params).In) (by rfl) (keeps_K (keepC6 w.params)) (evalArgs_any rfl (wpAny_items_cons (wpAny_Name (loadMain p.gd.g hd (wpAny_items_nil ⟨kf_in _, ?_⟩)) (by decide +kernel)) (by rfl)))
  show wpAny _ _ (call (.ref (cf6 w.params).C) [.str (T defT) td] []) _ _ _
  refine wpAny_call (c_make (s := ⟨h6 w.params, gn, dr, tk0, os⟩) (hs := []) (gn6 w.params) (room6.le (by omega)) Up.rfl' (fun b m => by cases m) (fun b m => by cases m) p (by rw [d_text]; decide +kernel) (by rw [d_split]; exact d_lines) ?_ (fun hb => ?_))
  · intro rs hrs x g' h' tk u1 u2 u3 _ st
    have hst : bkOf rs = stdBk := by
      unfold stdBk
      rw [hrs]; rfl
    rw [hst] at st
    exact k x h' tk u1 ((stem_lo rfl (u2 _ _ (g3 _)) (u2 _ _ (g12 _)) st).up (lo_of_up u3))
  · rw [d_split, d_read] at hb
    cases hb
end
end Mine

end

section
open PySem PySem.W PyProof.Rows PySem.Calls
set_option Elab.async false
set_option linter.unusedVariables false
set_option maxRecDepth 100000
namespace Mine

/-! ## the statements behind the seventh (printed by gen_h9.py) -/
theorem rest6_is : rest6 = [stt 6, stt 7, stt 8, stt 9, stt 10, stt 11, stt 12, stt 13, stt 14, stt 15, stt 16, stt 17, stt 18, stt 19, stt 20] := by kernel_rfl!
theorem st6 : ∃ p1 p2, stt 6 = .Assign [.Name "_standard" p1] (callOf (stt 6)) p2 := ⟨⟨91, 0, 91, 9⟩, ⟨91, 0, 91, 42⟩, by kernel_rfl!⟩
theorem st8 : ∃ k p1 p2 p3, stt 8 = .Assign [.Name "__name__" p1] (.Constant (.str "law_iu0048_01") k p2) p3 := ⟨0, ⟨94, 0, 94, 8⟩, ⟨94, 11, 94, 26⟩, ⟨94, 0, 94, 26⟩, by kernel_rfl!⟩
theorem st9 : ∃ k p1 p2 p3, stt 9 = .Assign [.Name "_law_letters" p1] (.Constant (.str (T lets)) k p2) p3 := ⟨0, ⟨95, 0, 95, 12⟩, ⟨95, 15, 95, 25⟩, ⟨95, 0, 95, 25⟩, by kernel_rfl!⟩
def DefSide (name : Str) (args : Arguments) : Prop := args.kwonlyargs = [] ∧ args.kw_defaults = [] ∧ args.defaults = [] ∧ annTrees args none env6 = [] ∧ pw.main.scope.names.lookup name = some .local ∧
  qualnameIn { scope := pw.main.scope, locals := mainGlobals, globals := mainGlobals, cells := [] } name name = name
theorem st7 : stt 7 = .FunctionDef "stem" (argsOf (stt 7)) (bodyOf (stt 7)) [] none [] (scopeOf (stt 7)) none "stem" ⟨92, 0, 93, 31⟩ := by kernel_rfl!
theorem sd7 : DefSide "stem" (argsOf (stt 7)) := ⟨by kernel_rfl!, by kernel_rfl!, by kernel_rfl!, by kernel_rfl!, by kernel_rfl!, by kernel_rfl!⟩
theorem sf7 : ∀ x ∈ (scopeOf (stt 7)).names, x.2 ≠ .free := by decide +kernel
theorem st10 : stt 10 = .FunctionDef "_law_starts" (argsOf (stt 10)) (bodyOf (stt 10)) [] none [] (scopeOf (stt 10)) none "_law_starts" ⟨96, 0, 97, 89⟩ := by kernel_rfl!
theorem sd10 : DefSide "_law_starts" (argsOf (stt 10)) := ⟨by kernel_rfl!, by kernel_rfl!, by kernel_rfl!, by kernel_rfl!, by kernel_rfl!, by kernel_rfl!⟩
theorem sf10 : ∀ x ∈ (scopeOf (stt 10)).names, x.2 ≠ .free := by decide +kernel
theorem st11 : stt 11 = .FunctionDef "_law_faults" (argsOf (stt 11)) (bodyOf (stt 11)) [] none [] (scopeOf (stt 11)) none "_law_faults" ⟨98, 0, 99, 52⟩ := by kernel_rfl!
theorem sd11 : DefSide "_law_faults" (argsOf (stt 11)) := ⟨by kernel_rfl!, by kernel_rfl!, by kernel_rfl!, by kernel_rfl!, by kernel_rfl!, by kernel_rfl!⟩
theorem sf11 : ∀ x ∈ (scopeOf (stt 11)).names, x.2 ≠ .free := by decide +kernel
theorem st12 : stt 12 = .FunctionDef "_law_take" (argsOf (stt 12)) (bodyOf (stt 12)) [] none [] (scopeOf (stt 12)) none "_law_take" ⟨100, 0, 103, 23⟩ := by kernel_rfl!
theorem sd12 : DefSide "_law_take" (argsOf (stt 12)) := ⟨by kernel_rfl!, by kernel_rfl!, by kernel_rfl!, by kernel_rfl!, by kernel_rfl!, by kernel_rfl!⟩
theorem sf12 : ∀ x ∈ (scopeOf (stt 12)).names, x.2 ≠ .free := by decide +kernel
theorem st13 : stt 13 = .FunctionDef "_law_letter_row" (argsOf (stt 13)) (bodyOf (stt 13)) [] none [] (scopeOf (stt 13)) none "_law_letter_row" ⟨104, 0, 109, 15⟩ := by kernel_rfl!
theorem sd13 : DefSide "_law_letter_row" (argsOf (stt 13)) := ⟨by kernel_rfl!, by kernel_rfl!, by kernel_rfl!, by kernel_rfl!, by kernel_rfl!, by kernel_rfl!⟩
theorem sf13 : ∀ x ∈ (scopeOf (stt 13)).names, x.2 ≠ .free := by decide +kernel
theorem st14 : stt 14 = .FunctionDef "_law_rule" (argsOf (stt 14)) (bodyOf (stt 14)) [] none [] (scopeOf (stt 14)) none "_law_rule" ⟨110, 0, 115, 86⟩ := by kernel_rfl!
theorem sd14 : DefSide "_law_rule" (argsOf (stt 14)) := ⟨by kernel_rfl!, by kernel_rfl!, by kernel_rfl!, by kernel_rfl!, by kernel_rfl!, by kernel_rfl!⟩
theorem sf14 : ∀ x ∈ (scopeOf (stt 14)).names, x.2 ≠ .free := by decide +kernel
theorem st15 : stt 15 = .FunctionDef "_law_told" (argsOf (stt 15)) (bodyOf (stt 15)) [] none [] (scopeOf (stt 15)) none "_law_told" ⟨116, 0, 119, 102⟩ := by kernel_rfl!
theorem sd15 : DefSide "_law_told" (argsOf (stt 15)) := ⟨by kernel_rfl!, by kernel_rfl!, by kernel_rfl!, by kernel_rfl!, by kernel_rfl!, by kernel_rfl!⟩
theorem sf15 : ∀ x ∈ (scopeOf (stt 15)).names, x.2 ≠ .free := by decide +kernel
theorem st16 : stt 16 = .FunctionDef "_law_read" (argsOf (stt 16)) (bodyOf (stt 16)) [] none [] (scopeOf (stt 16)) none "_law_read" ⟨120, 0, 128, 85⟩ := by kernel_rfl!
theorem sd16 : DefSide "_law_read" (argsOf (stt 16)) := ⟨by kernel_rfl!, by kernel_rfl!, by kernel_rfl!, by kernel_rfl!, by kernel_rfl!, by kernel_rfl!⟩
theorem sf16 : ∀ x ∈ (scopeOf (stt 16)).names, x.2 ≠ .free := by decide +kernel
theorem st17 : stt 17 = .FunctionDef "_law_word" (argsOf (stt 17)) (bodyOf (stt 17)) [] none [] (scopeOf (stt 17)) none "_law_word" ⟨129, 0, 138, 15⟩ := by kernel_rfl!
theorem sd17 : DefSide "_law_word" (argsOf (stt 17)) := ⟨by kernel_rfl!, by kernel_rfl!, by kernel_rfl!, by kernel_rfl!, by kernel_rfl!, by kernel_rfl!⟩
theorem sf17 : ∀ x ∈ (scopeOf (stt 17)).names, x.2 ≠ .free := by decide +kernel
theorem st18 : stt 18 = .FunctionDef "_law_stem" (argsOf (stt 18)) (bodyOf (stt 18)) [] none [] (scopeOf (stt 18)) none "_law_stem" ⟨139, 0, 160, 23⟩ := by kernel_rfl!
theorem sd18 : DefSide "_law_stem" (argsOf (stt 18)) := ⟨by kernel_rfl!, by kernel_rfl!, by kernel_rfl!, by kernel_rfl!, by kernel_rfl!, by kernel_rfl!⟩
theorem sf18 : ∀ x ∈ (scopeOf (stt 18)).names, x.2 ≠ .free := by decide +kernel
theorem st19 : stt 19 = .FunctionDef "_law_refused" (argsOf (stt 19)) (bodyOf (stt 19)) [] none [] (scopeOf (stt 19)) none "_law_refused" ⟨161, 0, 166, 16⟩ := by kernel_rfl!
theorem sd19 : DefSide "_law_refused" (argsOf (stt 19)) := ⟨by kernel_rfl!, by kernel_rfl!, by kernel_rfl!, by kernel_rfl!, by kernel_rfl!, by kernel_rfl!⟩
theorem sf19 : ∀ x ∈ (scopeOf (stt 19)).names, x.2 ≠ .free := by decide +kernel
theorem st20 : stt 20 = .FunctionDef "law" (argsOf (stt 20)) (bodyOf (stt 20)) [] none [] (scopeOf (stt 20)) none "law" ⟨167, 0, 199, 15⟩ := by kernel_rfl!
theorem sd20 : DefSide "law" (argsOf (stt 20)) := ⟨by kernel_rfl!, by kernel_rfl!, by kernel_rfl!, by kernel_rfl!, by kernel_rfl!, by kernel_rfl!⟩
theorem sf20 : ∀ x ∈ (scopeOf (stt 20)).names, x.2 ≠ .free := by decide +kernel
end Mine

end

section
open PySem PySem.W PyProof.Rows PySem.Calls
set_option Elab.async false
set_option linter.unusedVariables false
set_option maxRecDepth 100000
namespace Mine

/-! ## the end of the text's run (printed by gen_h10.py) -/
theorem lo_ns {h : Heap} {a : Addr} {m : Str → Option Value} (x : h.Ns a m) (h3 : a ≠ 3) (h12 : a ≠ 12) : (lo h).Ns a m := let ⟨o, es, ep, g, r⟩ := x; ⟨o, es, ep, lo_get g h3 h12, r⟩
theorem fnlo {P : Params} {a : Addr} {o : Obj} {fd : FuncData} {st : Stmt} {q : Str} (g : (h6 P).get? a = some o) (ha : a ≠ 3 ∧ a ≠ 12) (hd : o.data = .func fd)
    (h : fd.params = argsOf st ∧ fd.body = .stmts (bodyOf st) ∧ fd.scope = scopeOf st ∧ fd.globals = mainGlobals ∧ fd.closure = [] ∧ fd.defaults = .none ∧ fd.kwdefaults = .none ∧ fd.builtins = builtinsNs ∧ fd.qualname = q)
    {c : Addr} (hc : fd.code = .ref c) (hc' : c ≠ 3 ∧ c ≠ 12) {oc : Obj} {vs : Array Value} {t : Tok} (gc : (h6 P).get? c = some oc) (hv : oc.data = .fields vs) (h1 : vs[1]? = some (.str q t)) : FnAt (lo (h6 P)) a st q :=
  let ⟨a1, a2, a3, a4, a5, a6, a7, a8, a9⟩ := h
  ⟨o, fd, lo_get g ha.1 ha.2, hd, a1, a2, a3, a4, a5, a6, a7, a8, a9, c, oc, vs, t, hc, lo_get gc hc'.1 hc'.2, hv, h1⟩
theorem kf_lo (P : Params) : (Kf P).In (lo (h6 P)) := fun a o e => by
  refine lo_get (kf_in P a o e) (fun z => ?_) (fun z => ?_)
  · subst z; cases e
  · subst z; cases e
/-- the first part's things, wherever the text's names have gone on -/
theorem top_on {P : Params} {h : Heap} {mg : Str → Option Value} {ad : Nat → Addr} (hm : h.Ns mainGlobals mg) (u : Up (lo (h6 P)) h) (ha : ad 1 = 21 ∧ ad 2 = 28 ∧ ad 3 = 35 ∧ ad 100 = 49 ∧ ad 101 = 56 ∧ ad 102 = 61 ∧ ad 103 = 68 ∧ ad 104 = 75) : TopA ⟨mg, ad, Kf P, 78⟩ h := by
  obtain ⟨e1, e2, e3, e4, e5, e6, e7, e8⟩ := ha
  have G := gd6 P
  refine ⟨⟨hm, ?_, ?_, ?_⟩, (kf_lo P).keeps u, ?_, ?_, ?_, ?_, ?_, ?_, ?_, ?_⟩
  · obtain ⟨mb, a, b⟩ := G.b
    exact ⟨mb, (lo_ns a (by decide) (by decide)).keeps u, b⟩
  · obtain ⟨mb, a, b⟩ := G.nolimit
    exact ⟨mb, (lo_ns a (by decide) (by decide)).keeps u, b⟩
  · obtain ⟨mb, a, b⟩ := G.nodigits
    exact ⟨mb, (lo_ns a (by decide) (by decide)).keeps u, b⟩
  · show FnAt h (ad _) _ _
    rw [e1]
    exact (fnlo (g21 P) (by decide) rfl ⟨rfl, rfl, rfl, rfl, rfl, rfl, rfl, rfl, rfl⟩ rfl (by decide) (h6_get (a := 20) (by decide) rfl rfl) rfl rfl).up u
  · show FnAt h (ad _) _ _
    rw [e2]
    exact (fnlo (g28 P) (by decide) rfl ⟨rfl, rfl, rfl, rfl, rfl, rfl, rfl, rfl, rfl⟩ rfl (by decide) (h6_get (a := 27) (by decide) rfl rfl) rfl rfl).up u
  · show FnAt h (ad _) _ _
    rw [e3]
    exact (fnlo (g35 P) (by decide) rfl ⟨rfl, rfl, rfl, rfl, rfl, rfl, rfl, rfl, rfl⟩ rfl (by decide) (h6_get (a := 34) (by decide) rfl rfl) rfl rfl).up u
  · show FnAt h (ad _) _ _
    rw [e4]
    exact (fnlo (g49 P) (by decide) rfl ⟨rfl, rfl, rfl, rfl, rfl, rfl, rfl, rfl, rfl⟩ rfl (by decide) (h6_get (a := 48) (by decide) rfl rfl) rfl rfl).up u
  · show FnAt h (ad _) _ _
    rw [e5]
    exact (fnlo (g56 P) (by decide) rfl ⟨rfl, rfl, rfl, rfl, rfl, rfl, rfl, rfl, rfl⟩ rfl (by decide) (h6_get (a := 55) (by decide) rfl rfl) rfl rfl).up u
  · show FnAt h (ad _) _ _
    rw [e6]
    exact (fnlo (g61 P) (by decide) rfl ⟨rfl, rfl, rfl, rfl, rfl, rfl, rfl, rfl, rfl⟩ rfl (by decide) (h6_get (a := 60) (by decide) rfl rfl) rfl rfl).up u
  · show FnAt h (ad _) _ _
    rw [e7]
    exact (fnlo (g68 P) (by decide) rfl ⟨rfl, rfl, rfl, rfl, rfl, rfl, rfl, rfl, rfl⟩ rfl (by decide) (h6_get (a := 67) (by decide) rfl rfl) rfl rfl).up u
  · show FnAt h (ad _) _ _
    rw [e8]
    exact (fnlo (g75 P) (by decide) rfl ⟨rfl, rfl, rfl, rfl, rfl, rfl, rfl, rfl, rfl⟩ rfl (by decide) (h6_get (a := 74) (by decide) rfl rfl) rfl rfl).up u

/-- what the text's run leaves -/
structure TopEnd (w : World) (h : Heap) : Prop where
  is : ∃ (cf : Cfg) (a : Addr) (ps : Array Value), GL cf ∧ TopL w cf h ∧ FnAt h a (stt 20) "law" ∧ NamedAt h a "law" ∧ cf.mg "law" = some (.ref a) ∧ Md w.params h cf.mg ps ["law", "_law_refused", "_law_stem", "_law_word", "_law_read", "_law_told", "_law_rule", "_law_letter_row", "_law_take", "_law_faults", "_law_starts", "_law_letters", "__name__", "stem", "_standard"]
def adL (l : List (Nat × Addr)) (n : Nat) : Addr := (l.lookup n).getD (ad6 n)
noncomputable def mgL (P : Params) (x : Addr) (t8 t9 : Tok) (a7 a10 a11 a12 a13 a14 a15 a16 a17 a18 a19 a20 : Addr) : Str → Option Value :=
  upd (upd (upd (upd (upd (upd (upd (upd (upd (upd (upd (upd (upd (upd (upd (mg6 P) "_standard" (.ref x)) "stem" (.ref a7)) "__name__" (.str "law_iu0048_01" t8)) "_law_letters" (.str (T lets) t9)) "_law_starts" (.ref a10)) "_law_faults" (.ref a11)) "_law_take" (.ref a12)) "_law_letter_row" (.ref a13)) "_law_rule" (.ref a14)) "_law_told" (.ref a15)) "_law_read" (.ref a16)) "_law_word" (.ref a17)) "_law_stem" (.ref a18)) "_law_refused" (.ref a19)) "law" (.ref a20)
noncomputable def cfL (P : Params) (x : Addr) (t8 t9 : Tok) (a7 a10 a11 a12 a13 a14 a15 a16 a17 a18 a19 a20 : Addr) : Cfg :=
  ⟨mgL P x t8 t9 a7 a10 a11 a12 a13 a14 a15 a16 a17 a18 a19 a20, adL [(6, x), (7, a7), (10, a10), (11, a11), (12, a12), (13, a13), (14, a14), (15, a15), (16, a16), (17, a17), (18, a18), (19, a19), (20, a20)], Kf P, 78⟩
theorem gnL (P : Params) (x : Addr) (t8 t9 : Tok) (a7 a10 a11 a12 a13 a14 a15 a16 a17 a18 a19 a20 : Addr) : GL (cfL P x t8 t9 a7 a10 a11 a12 a13 a14 a15 a16 a17 a18 a19 a20) where
  wr := by kernel_rfl!
  isf := by kernel_rfl!
  rr := by kernel_rfl!
  ph := by kernel_rfl!
  len := by kernel_rfl!
  int := by kernel_rfl!
  min := by kernel_rfl!
  exc := by kernel_rfl!
  hga := (gn6 P).hga
  hgm := (gn6 P).hgm
  hsa := (gn6 P).hsa
  k0 := (gn6 P).k0
  k1 := (gn6 P).k1
  k2 := (gn6 P).k2
  k3 := (gn6 P).k3
  k4 := (gn6 P).k4
  kr := (gn6 P).kr
  t0 := (gn6 P).t0
  t1 := (gn6 P).t1
  t2 := (gn6 P).t2
  t3 := (gn6 P).t3
  t4 := (gn6 P).t4
  makes := (gn6 P).makes
  plain := (gn6 P).plain
  dict := (gn6 P).dict
  lt := ⟨t9, by kernel_rfl!⟩
  starts := by kernel_rfl!
  faults := by kernel_rfl!
  take := by kernel_rfl!
  lrow := by kernel_rfl!
  lrule := by kernel_rfl!
  told := by kernel_rfl!
  lread := by kernel_rfl!
  lword := by kernel_rfl!
  lstem := by kernel_rfl!
  refused := by kernel_rfl!
  stem := by kernel_rfl!
  std := by kernel_rfl!
  defs := ⟨298, by
    have : T defT = defStr := (T_of _).symm
    rw [this]
    kernel_rfl!⟩
  abs := by kernel_rfl!
  range := by kernel_rfl!
  keepC := keepC6 P

theorem run_rest {w : World} {s : Shared} (hs : s.heap = h6 w.params) (hg : s.gens = #[]) :
    wpAny (model pw w) A6 (execs rest6 env6) (fun f s' => f = .next ∧ s'.gens = #[] ∧ (s'.os = s.os ∧ TopEnd w s'.heap)) (fun _ _ => False) s := by
  obtain ⟨h, gn, dr, tk0, os⟩ := s
  have hs : h = h6 w.params := hs
  have hg : gn = #[] := hg
  subst hs hg
  rw [rest6_is]
  obtain ⟨q1, q2, e6⟩ := st6
  rw [e6]
  refine wpAny_execs_cons (wpAny_Assign_Name (eval6 rfl fun x h1 tk1 u1 S1 => ?_))
  have X1 := (md6 w.params).grow u1
  refine md_store (s := ⟨h1, #[], dr, tk1, os⟩) X1 (by kernel_rfl!) (by decide +kernel) fun h2 tk2 X2 u2 => ?_
  have S2 := S1.up u2
  refine wpAny_execs_cons (md_def (s := ⟨h2, #[], dr, tk2, os⟩) X2 st7 sd7 sf7 (by decide +kernel) (by kernel_rfl!) fun a7 c7 h3 tk3 X3 u3 F7 N7 => ?_)
  have S3 := S2.up u3
  obtain ⟨k8, p8a, p8b, p8c, e8⟩ := st8
  rw [e8]
  refine wpAny_execs_cons (md_text (s := ⟨h3, #[], dr, tk3, os⟩) X3 (by kernel_rfl!) (by decide +kernel) fun t8 h4 tk4 X4 u4 => ?_)
  have S4 := S3.up u4
  replace F7 := F7.up u4
  obtain ⟨k9, p9a, p9b, p9c, e9⟩ := st9
  rw [e9]
  refine wpAny_execs_cons (md_text (s := ⟨h4, #[], dr, tk4, os⟩) X4 (by kernel_rfl!) (by decide +kernel) fun t9 h5 tk5 X5 u5 => ?_)
  have S5 := S4.up u5
  replace F7 := F7.up u5
  refine wpAny_execs_cons (md_def (s := ⟨h5, #[], dr, tk5, os⟩) X5 st10 sd10 sf10 (by decide +kernel) (by kernel_rfl!) fun a10 c10 h6 tk6 X6 u6 F10 N10 => ?_)
  have S6 := S5.up u6
  replace F7 := F7.up u6
  refine wpAny_execs_cons (md_def (s := ⟨h6, #[], dr, tk6, os⟩) X6 st11 sd11 sf11 (by decide +kernel) (by kernel_rfl!) fun a11 c11 h7 tk7 X7 u7 F11 N11 => ?_)
  have S7 := S6.up u7
  replace F7 := F7.up u7
  replace F10 := F10.up u7
  refine wpAny_execs_cons (md_def (s := ⟨h7, #[], dr, tk7, os⟩) X7 st12 sd12 sf12 (by decide +kernel) (by kernel_rfl!) fun a12 c12 h8 tk8 X8 u8 F12 N12 => ?_)
  have S8 := S7.up u8
  replace F7 := F7.up u8
  replace F10 := F10.up u8
  replace F11 := F11.up u8
  refine wpAny_execs_cons (md_def (s := ⟨h8, #[], dr, tk8, os⟩) X8 st13 sd13 sf13 (by decide +kernel) (by kernel_rfl!) fun a13 c13 h9 tk9 X9 u9 F13 N13 => ?_)
  have S9 := S8.up u9
  replace F7 := F7.up u9
  replace F10 := F10.up u9
  replace F11 := F11.up u9
  replace F12 := F12.up u9
  refine wpAny_execs_cons (md_def (s := ⟨h9, #[], dr, tk9, os⟩) X9 st14 sd14 sf14 (by decide +kernel) (by kernel_rfl!) fun a14 c14 h10 tk10 X10 u10 F14 N14 => ?_)
  have S10 := S9.up u10
  replace F7 := F7.up u10
  replace F10 := F10.up u10
  replace F11 := F11.up u10
  replace F12 := F12.up u10
  replace F13 := F13.up u10
  refine wpAny_execs_cons (md_def (s := ⟨h10, #[], dr, tk10, os⟩) X10 st15 sd15 sf15 (by decide +kernel) (by kernel_rfl!) fun a15 c15 h11 tk11 X11 u11 F15 N15 => ?_)
  have S11 := S10.up u11
  replace F7 := F7.up u11
  replace F10 := F10.up u11
  replace F11 := F11.up u11
  replace F12 := F12.up u11
  replace F13 := F13.up u11
  replace F14 := F14.up u11
  refine wpAny_execs_cons (md_def (s := ⟨h11, #[], dr, tk11, os⟩) X11 st16 sd16 sf16 (by decide +kernel) (by kernel_rfl!) fun a16 c16 h12 tk12 X12 u12 F16 N16 => ?_)
  have S12 := S11.up u12
  replace F7 := F7.up u12
  replace F10 := F10.up u12
  replace F11 := F11.up u12
  replace F12 := F12.up u12
  replace F13 := F13.up u12
  replace F14 := F14.up u12
  replace F15 := F15.up u12
  refine wpAny_execs_cons (md_def (s := ⟨h12, #[], dr, tk12, os⟩) X12 st17 sd17 sf17 (by decide +kernel) (by kernel_rfl!) fun a17 c17 h13 tk13 X13 u13 F17 N17 => ?_)
  have S13 := S12.up u13
  replace F7 := F7.up u13
  replace F10 := F10.up u13
  replace F11 := F11.up u13
  replace F12 := F12.up u13
  replace F13 := F13.up u13
  replace F14 := F14.up u13
  replace F15 := F15.up u13
  replace F16 := F16.up u13
  refine wpAny_execs_cons (md_def (s := ⟨h13, #[], dr, tk13, os⟩) X13 st18 sd18 sf18 (by decide +kernel) (by kernel_rfl!) fun a18 c18 h14 tk14 X14 u14 F18 N18 => ?_)
  have S14 := S13.up u14
  replace F7 := F7.up u14
  replace F10 := F10.up u14
  replace F11 := F11.up u14
  replace F12 := F12.up u14
  replace F13 := F13.up u14
  replace F14 := F14.up u14
  replace F15 := F15.up u14
  replace F16 := F16.up u14
  replace F17 := F17.up u14
  refine wpAny_execs_cons (md_def (s := ⟨h14, #[], dr, tk14, os⟩) X14 st19 sd19 sf19 (by decide +kernel) (by kernel_rfl!) fun a19 c19 h15 tk15 X15 u15 F19 N19 => ?_)
  have S15 := S14.up u15
  replace F7 := F7.up u15
  replace F10 := F10.up u15
  replace F11 := F11.up u15
  replace F12 := F12.up u15
  replace F13 := F13.up u15
  replace F14 := F14.up u15
  replace F15 := F15.up u15
  replace F16 := F16.up u15
  replace F17 := F17.up u15
  replace F18 := F18.up u15
  refine wpAny_execs_cons (md_def (s := ⟨h15, #[], dr, tk15, os⟩) X15 st20 sd20 sf20 (by decide +kernel) (by kernel_rfl!) fun a20 c20 h16 tk16 X16 u16 F20 N20 => ?_)
  have S16 := S15.up u16
  replace F7 := F7.up u16
  replace F10 := F10.up u16
  replace F11 := F11.up u16
  replace F12 := F12.up u16
  replace F13 := F13.up u16
  replace F14 := F14.up u16
  replace F15 := F15.up u16
  replace F16 := F16.up u16
  replace F17 := F17.up u16
  replace F18 := F18.up u16
  replace F19 := F19.up u16
  refine wpAny_execs_nil ⟨rfl, rfl, rfl, ?_⟩
  have T := top_on (ad := adL [(6, x), (7, a7), (10, a10), (11, a11), (12, a12), (13, a13), (14, a14), (15, a15), (16, a16), (17, a17), (18, a18), (19, a19), (20, a20)]) X16.main.g (X16.keep.tr lo_le) ⟨rfl, rfl, rfl, rfl, rfl, rfl, rfl, rfl⟩
  exact ⟨cfL w.params x t8 t9 a7 a10 a11 a12 a13 a14 a15 a16 a17 a18 a19 a20, a20, _, gnL _ _ _ _ _ _ _ _ _ _ _ _ _ _ _ _, ⟨T, F7.up lo_le, F10.up lo_le, F11.up lo_le, F12.up lo_le, F13.up lo_le, F14.up lo_le, F15.up lo_le, F16.up lo_le, F17.up lo_le, F18.up lo_le, F19.up lo_le, ⟨(S16.up lo_le).at_⟩⟩, F20.up lo_le, (let ⟨o, fd, n1, n2⟩ := N20; ⟨o, fd, lo_le _ _ n1, n2⟩), by kernel_rfl!, X16⟩
end Mine

end

section
open PySem PySem.W PyProof.Rows PySem.Calls
set_option Elab.async false
set_option linter.unusedVariables false
set_option maxRecDepth 100000
namespace Mine

/-! ## the text's run, as the claim asks it -/
theorem boot_at {P : Params} {a : Addr} {o : Obj} (h : (boot_heap P).get? a = some o) (h3 : a ≠ 3) : (h6 P).get? a = some o := by
  have hlt : a < 11 := Heap.lt_size h
  match a, hlt with
  | 0, _ => exact (h6_get (by decide) rfl rfl : (h6 P).get? 0 = some (boot_o_0 P)).trans h
  | 1, _ => exact (h6_get (by decide) rfl rfl : (h6 P).get? 1 = some (boot_o_1 P)).trans h
  | 2, _ => exact (h6_get (by decide) rfl rfl : (h6 P).get? 2 = some (boot_o_2 P)).trans h
  | 3, _ => exact absurd rfl h3
  | 4, _ => exact (h6_get (by decide) rfl rfl : (h6 P).get? 4 = some (boot_o_4 P)).trans h
  | 5, _ => exact (h6_get (by decide) rfl rfl : (h6 P).get? 5 = some (boot_o_5 P)).trans h
  | 6, _ => exact (h6_get (by decide) rfl rfl : (h6 P).get? 6 = some (boot_o_6 P)).trans h
  | 7, _ => exact (h6_get (by decide) rfl rfl : (h6 P).get? 7 = some (boot_o_7 P)).trans h
  | 8, _ => exact (h6_get (by decide) rfl rfl : (h6 P).get? 8 = some (boot_o_8 P)).trans h
  | 9, _ => exact (h6_get (by decide) rfl rfl : (h6 P).get? 9 = some (boot_o_9 P)).trans h
  | 10, _ => exact (h6_get (by decide) rfl rfl : (h6 P).get? 10 = some (boot_o_10 P)).trans h
theorem bootMain (P : Params) : (boot_heap P).isNs mainGlobals = true := by kernel_rfl!
def endNames : List Str := ["law", "_law_refused", "_law_stem", "_law_word", "_law_read", "_law_told", "_law_rule", "_law_letter_row", "_law_take", "_law_faults", "_law_starts", "_law_letters", "__name__", "stem", "_standard"]

theorem top_ran {w : World} {os : OsState} {s₁ : Shared} (hg : s₁.gens = #[]) (hos : s₁.os = os) {mg : Str → Option Value} {ps : Array Value} (X : Md w.params s₁.heap mg ps endNames)
    (hl : s₁.heap.life = (boot_heap w.params).life) (hr : ∃ n t, schedN (denote table) pw w n (.single (s0 w os) (topStub pw)) = .running (.single s₁ t) ∧ through t = true) : TopRan pw w (s0 w os) s₁ := by
  have up : ∀ b o, (boot_heap w.params).get? b = some o → b ≠ 3 → s₁.heap.get? b = some o := fun b o z h3 =>
    lo_le _ _ (X.keep _ _ (lo_get (boot_at z h3) h3 (fun q => by have h11 : b < 11 := Heap.lt_size z; subst q; exact absurd h11 (by decide))))
  have hst : s₁.heap.get? cStatics = some (boot_o_2 w.params) := up 2 _ rfl (by decide)
  have stat : ∀ key, staticOf s₁.heap key = none := fun key => by
    unfold staticOf
    rw [hst]; rfl
  have stat0 : ∀ key, staticOf (boot_heap w.params) key = none := fun key => by
    unfold staticOf
    rw [show (boot_heap w.params).get? cStatics = some (boot_o_2 w.params) from rfl]; rfl
  have glob : ∀ x, globalOf s₁.heap x = mg x := Claim2Try.globalOf_of_ns X.main.g
  have hb0 : (boot_heap w.params).isNs builtinsNs = true := by kernel_rfl!
  refine ⟨hr, hl, Shared.rest_eq hos, fun b o z hn => up b o z fun q => hn (.inl q), fun key v hv => ?_, fun key => .inl ((stat key).trans (stat0 key).symm), ?_, fun name hn => ?_, ?_, fun g m => ?_, fun x v hv => ?_, fun x hx => ?_⟩
  · rw [stat key] at hv; cases hv
  · obtain ⟨o, es, ep, a, b, c, _⟩ := X.main.g
    exact ⟨o, es, ep, a, b, c⟩
  · have e : builtinOf s₁.heap name = builtinOf (boot_heap w.params) name := by
      unfold builtinOf
      rw [show s₁.heap.get? builtinsNs = some (boot_o_0 w.params) from up 0 _ rfl (by decide)]
      rfl
    rw [e, Pin.builtinOf_eq hb0]
    exact Heap.of_bltView hb0 (by kernel_rfl!) name hn
  · obtain ⟨bm, o, h1, h2, h3, h4, h5, h6', h7, h8⟩ := X.main.bmod
    exact ⟨bm, o, (glob _).trans h1, h5, h6', h7⟩
  · rw [hg] at m
    simp at m
  · rw [glob] at hv
    by_cases hx : x ∈ endNames
    · exact .inr ((by decide +kernel : ∀ x ∈ endNames, x ∈ pw.boundNames) x hx)
    · rw [X.others x hx] at hv
      have nb : namesBound pw (h6 w.params) = true := by kernel_rfl!
      exact names_of_bound nb x v ((Claim2Try.globalOf_of_ns (gd6 w.params).g x).trans hv)
  · rw [glob, X.others x ((by decide +kernel : ∀ x ∈ laidNames, x ∉ endNames) x hx), ← Claim2Try.globalOf_of_ns (gd6 w.params).g x]
    have lk : laidKept (boot_heap w.params) (h6 w.params) = true := by kernel_rfl!
    exact laid_of_kept lk x hx
end Mine

end

section
open PySem PySem.W PyProof.Rows PySem.Calls
set_option Elab.async false
set_option linter.unusedVariables false
set_option maxRecDepth 100000
namespace Mine

theorem run_ends (w : World) (os : OsState) (hr : (s0 w os).asleep) : ∃ s₁ : Shared, s₁.gens = #[] ∧ s₁.os = os ∧ s₁.heap.life = (s0 w os).heap.life ∧ TopEnd w s₁.heap ∧
    (∃ n t, schedN (denote table) pw w n (.single (s0 w os) (topStub pw)) = .running (.single s₁ t) ∧ through t = true) := by
  obtain ⟨⟨m, hm⟩, L⟩ := to6 w os hr
  have hz : (s6 w os).abs.asleep := Shared.asleep_of_life L.life hr
  obtain ⟨n, s', τ, hn, hth, hg, hlf, hos, hT⟩ := wp_through (q := p6) (R := fun s' => s'.os = (s6 w os).abs.os ∧ TopEnd w s'.heap) hz (run_rest (s := (s6 w os).abs) rfl rfl)
  exact ⟨s', hg, hos, hlf.trans L.life, hT, m + n, τ, by rw [schedN_add _ _ _ _ hm]; exact hn, hth⟩

theorem ints_of {R : WRecords} {cl : Str → Option Addr} {h : Heap} : ∀ {xs : List WData} {vs : List Value} {as : List Addr}, ReadsAllW R cl h vs xs as → WShape.hasItems R xs .int = true → ∃ ns : List Int, ns.length = xs.length ∧ IntsOf ns vs
  | [], _, _, x, _ => by cases x; exact ⟨[], rfl, .nil⟩
  | d :: xs, _, _, x, h => by
    cases x with
    | cons r rs =>
      have h := Bool.and_eq_true_iff.mp (show (WShape.has R d .int && WShape.hasItems R xs .int) = true from h)
      obtain ⟨ns, e, hn⟩ := ints_of rs h.2
      cases r with
      | int i t => exact ⟨i :: ns, by rw [List.length_cons, List.length_cons, e], .cons ⟨t, rfl⟩ hn⟩
      | _ => exact absurd h.1 (by simp [WShape.has, WShape.arms])

/-- the claim's condition: one list of at most 63 ints -/
theorem pre_is {args : List WData} (h : (PySem.Challenge.rw_iu0048_01.row.toRowW.claim).pre args = true) : ∃ xs, args = [.list xs] ∧ WShape.hasItems [] xs .int = true ∧ xs.length ≤ 63 := by
  obtain ⟨h1, h2⟩ := pre_splitW (r := PySem.Challenge.rw_iu0048_01.row.toRowW) h
  obtain ⟨d, r, rfl, hd, hr⟩ := hasAllW_cons h1
  obtain rfl := hasAllW_nil hr
  cases d with
  | list xs =>
    have hd : WShape.has [] (.list xs) (.list .int) = true := hd
    have hi : WShape.hasItems [] xs .int = true := by simpa [WShape.has, WShape.arms] using hd
    refine ⟨xs, rfl, hi, ?_⟩
    have h3 : WTm.holds [] (PySem.Challenge.rw_iu0048_01.pre) { args := [.list xs] } = true := h2
    simp [PySem.Challenge.rw_iu0048_01, OpenLaw.pre, WTm.holds, WTm.value] at h3
    rw [show less? (WData.int 63) (WData.int (xs.length : Int)) = some (decide ((63 : Int) < xs.length)) from rfl] at h3
    by_cases hc : (63 : Int) < xs.length
    · rw [decide_eq_true hc] at h3
      cases h3
    · omega
  | _ => exact absurd hd (by simp [WShape.has, WShape.arms])

theorem opened (w : World) : ∃ s os, AfterRun (opening pw) w s ∧ fenceModules? pw s = some (s0 w os) ∧ (s0 w os).asleep := by
  have h := boot_open (p := pw) (N := 600) (by kernel_rfl!) (by decide) (fun s => by kernel_rfl!) w
  obtain ⟨⟨h0, g0, d0, t0, os⟩, h1, h2⟩ := Option.map_eq_some_iff.mp h
  rw [← table_eq_tree] at h1
  obtain ⟨s, h3, h4⟩ := Option.bind_eq_some_iff.mp h1
  have A := AfterImport.of_importEnds h3
  cases h2
  exact ⟨s, os, A, h4, Shared.asleep_of_life (fence_lifeW h4) A.life⟩

section
variable (S : ∀ xs : List Int, xs.length ≤ 63 → ScriptOk dLines xs)
include S
theorem call_ends {w : World} {s s₁ : Shared} {mg : Str → Option Value} {cf : Cfg} {a : Addr} (N : GL cf) (T : TopL w cf s.heap) (hf : FnAt s.heap a (stt 20) "law") (hm : cf.mg "law" = some (.ref a)) {args : List WData} {vs : List Value} {as : List Addr}
    (hpre : (PySem.Challenge.rw_iu0048_01.row.toRowW.claim).pre args = true) (L : Laid [] w s s₁ args vs as) :
    wpAny (model pw w) callerA (callStub "law" vs).cur (fun fin s' => ∃ f, fin = .done f ∧ GoodWG (PySem.Challenge.rw_iu0048_01.row.toRowW.claim) (classAt s.heap) (ExcName.means s.heap) args s₁ (.ok f) s')
      (fun e s' => GoodWG (PySem.Challenge.rw_iu0048_01.row.toRowW.claim) (classAt s.heap) (ExcName.means s.heap) args s₁ (.error e) s') s₁ := by
  obtain ⟨xs, rfl, hi, hlen⟩ := pre_is hpre
  obtain ⟨_, hrd, _, _, hk, hg, hos⟩ := L
  have u : Up s.heap s₁.heap := hk
  cases hrd with
  | cons r rs =>
    cases rs
    cases r with
    | @list b o its n _ as' h1 h2 h3 h4 =>
      obtain ⟨ns, hn, hI⟩ := ints_of h4 hi
      have hsc : IntL s₁.heap (.ref b) ns := ⟨its.toList, ⟨b, rfl, o, h1, h2, n, by rw [h3]⟩, hI⟩
      have T1 := T.up u
      refine wpAny_bind (wpAny_nsGet T1.gd.g ?_)
      rw [hm]
      refine wpAny_bind (wpAny_call (c_law N ⟨rfl, by decide, by decide⟩ rfl T1 (hf.up u) hsc (by omega) d_ok (S ns (by omega)) fun h' tk u' => ?_))
      refine wpAny_pure ⟨_, rfl, GoodW.toG ⟨.inl ⟨.bool true, .bool true, [], rfl, fun cls => rfl, .bool true, by kernel_rfl!, fun _ => ⟨List.nodup_nil, fun _ m => by cases m⟩⟩, u', rfl, hg⟩⟩
end
end Mine

end

section
open PySem PySem.W PyProof.Rows PySem.Calls
set_option Elab.async false
set_option linter.unusedVariables false
set_option maxRecDepth 100000
namespace Mine

theorem is_def {w : World} {h : Heap} {cf : Cfg} {a : Addr} {ps : Array Value} (hm : cf.mg "law" = some (.ref a)) (X : h.Ns mainGlobals cf.mg) (F : FnAt h a (stt 20) "law") (N : NamedAt h a "law") : isTheDefsW pw h "law" := by
  obtain ⟨o, fd, h1, h2, h3, h4, h5, h6', h7, h8, h9, h10, h11, _⟩ := F.at_
  obtain ⟨o', fd', q1, q2, q3⟩ := N
  rw [h1] at q1; cases q1
  rw [h2] at q2; cases q2
  refine ⟨a, o, fd, argsOf (stt 20), bodyOf (stt 20), scopeOf (stt 20), (Claim2Try.globalOf_of_ns X _).trans hm, h1, h2, by kernel_rfl!, q3, h11, h3, h4, h5, h6', h7, h10, .inl ⟨by kernel_rfl!, h8⟩, [], by kernel_rfl!, .inl ⟨rfl, h9⟩⟩

theorem bare_ : pw.bare := by
  unfold Program.bare
  refine ⟨?_, ?_, ?_, ?_, ?_, ?_⟩ <;> kernel_rfl!
theorem row_holds (S : ∀ xs : List Int, xs.length ≤ 63 → ScriptOk dLines xs) (said : PySem.Challenge.rw_iu0048_01.row.wellSaid = true) : PySem.Challenge.rw_iu0048_01.row.Holds := by
  refine ⟨said, ⟨[.list [.int 3, .int 1]], by decide +kernel, by decide +kernel⟩, ⟨⟨bare_, by kernel_rfl!, rfl⟩, ⟨[.list [.int 3, .int 1]], by decide +kernel, by decide +kernel⟩, fun w => ?_⟩⟩
  obtain ⟨s, os, A, hf, hz⟩ := opened w
  refine ⟨⟨s, A⟩, fun s' A' => ?_⟩
  obtain rfl : s' = s := AfterImport.unique A' A
  obtain ⟨s₁, hg, hos, hl, ⟨cf, a, ps, N, T, F, Nm, hm, X⟩, hr⟩ := run_ends w os hz
  refine ⟨s0 w os, hf, rfl, s₁, top_ran hg hos X hl hr, fun n hn => ?_, (fun x hx => by cases hx), (fun x hx => by cases hx), ?_⟩
  · have : n = "law" := (List.mem_singleton.mp (show n ∈ [("law" : Str)] from hn))
    subst this
    exact is_def (w := w) (ps := ps) hm X.main.g F Nm
  · refine ClaimW.callFrom_of_specG (c := PySem.Challenge.rw_iu0048_01.row.toRowW.claim) (Shared.asleep_of_life hl hz) hg fun args hpre hlay ord hord => ?_
    obtain ⟨⟨vs, s₂⟩, hlaid⟩ := Option.isSome_iff_exists.mp (layAllW_isSome (R := []) (cl := classAt s₁.heap) (P := w.params) (ord := ord) (by intro c hc; cases hc) args PySem.Challenge.rw_iu0048_01.row.args s₁ (pre_splitW hpre).1)
    have keeps := layAllW_keeps _ _ _ hlaid
    have hal := layAllW_rest _ _ _ hlaid
    obtain ⟨as, hrd, hin, hold⟩ := reads_layAllW hord _ _ _ hlaid hlay s₂.heap (fun _ _ e => e)
    have L : Laid [] w s₁ s₂ args vs as := ⟨⟨ord, hord, hlaid⟩, hrd, hin, hold, keeps, hal.1.trans hg, hal.2.2.1⟩
    have hfr : (frees PySem.Challenge.rw_iu0048_01.row.toRowW) = true := by kernel_rfl!
    obtain ⟨f1, f2, f3, f4, f5⟩ := frees_parts hfr
    have hi := ident_freeW (r := PySem.Challenge.rw_iu0048_01.row.toRowW) f2 f3 f4
    refine ⟨vs, s₂, hlaid, wpAny_mono (call_ends S (mg := cf.mg) N T F hm hpre L) (fun fin s' g => ?_) fun e s' g => ?_⟩
    · obtain ⟨f, e1, g⟩ := g
      obtain ⟨g1, g2, g3⟩ := g.laid (c := PySem.Challenge.rw_iu0048_01.row.toRowW.claim) f1 rfl hi L
      exact ⟨f, e1, g1, g2, g3, fun q => by cases q⟩
    · obtain ⟨g1, g2, g3⟩ := g.laid (c := PySem.Challenge.rw_iu0048_01.row.toRowW.claim) f1 rfl hi L
      exact ⟨g1, g2, g3, fun q => by cases q⟩
end Mine

end

section
open PySem PySem.W PyProof.Rows PySem.Calls
set_option Elab.async false
set_option linter.unusedVariables false
set_option maxRecDepth 100000
namespace Mine

/-! ## the plain law: the stemmer's rounds are the law's -/
theorem fv_zero {t : List Nat} (h : hasV t = true) : (firstVowel t == 0) = isV (t.getD 0 0) := by
  cases t with
  | nil => cases h
  | cons c r =>
    unfold firstVowel
    show ((if 0 < (c :: r).findIdx (· == 121) ∧ (c :: r).findIdx (· == 121) < (c :: r).findIdx isV then (c :: r).findIdx (· == 121) else (c :: r).findIdx isV) == 0) = isV c
    cases hv : isV c with
    | true =>
      have : (c :: r).findIdx isV = 0 := by rw [List.findIdx_cons, hv]; rfl
      rw [this, if_neg (by omega)]; rfl
    | false =>
      have : 0 < (c :: r).findIdx isV := by rw [List.findIdx_cons, hv]; exact Nat.succ_pos _
      split
      · rename_i hh; exact beq_eq_false_iff_ne.mpr (by omega)
      · exact beq_eq_false_iff_ne.mpr (by omega)
theorem dec_lt (a k : Int) : decide (a < k) = !decide (k ≤ a) := by
  by_cases h : k ≤ a
  · rw [decide_eq_true h, decide_eq_false (by omega)]; rfl
  · rw [decide_eq_false h, decide_eq_true (by omega)]; rfl
theorem fits_law {t : List Nat} (h : hasV t = true) (wh : Bool) (r : Rule) : fits t (firstVowel t) wh r = lawFits t wh r := by
  have hz := fv_zero h
  unfold fits lawFits least
  congr 1
  have e1 : (!(r.al && !wh)) = (wh || !r.al) := by cases r.al <;> cases wh <;> rfl
  rw [e1]
  congr 1
  cases hv : isV (t.getD 0 0) with
  | true =>
    rw [hv] at hz
    have h0 : firstVowel t = 0 := by simpa using hz
    rw [h0]
    simp
    exact dec_lt _ _
  | false =>
    rw [hv] at hz
    have h0 : 0 < firstVowel t := by have : firstVowel t ≠ 0 := by simpa using hz
                                     omega
    rw [hz, decide_eq_true h0]
    simp
    exact dec_lt _ _
theorem last_ends {t e : List Nat} (he : e ≠ []) (h : endsT t e = true) : lastOf e = lastOf t := by
  unfold endsT at h
  rw [Bool.and_eq_true, decide_eq_true_eq, beq_iff_eq] at h
  obtain ⟨h1, h2⟩ := h
  have hp : 0 < e.length := List.length_pos_iff.mpr he
  have e1 : t.drop (t.length - e.length) = e := by
    rw [List.take_of_length_le (by rw [List.length_drop]; omega)] at h2
    exact h2
  unfold lastOf
  conv => lhs; rw [← e1]
  rw [List.getD_eq_getElem?_getD, List.getD_eq_getElem?_getD, List.getElem?_drop]
  congr 2
  rw [e1]; omega
theorem find_bk {rs : List Rule} (hen : ∀ r ∈ rs, r.en ≠ []) {t : List Nat} {wh : Bool} : (bkOf rs (lastOf t)).find? (lawFits t wh) = rs.find? (lawFits t wh) := by
  unfold bkOf
  induction rs with
  | nil => rfl
  | cons r rs ih =>
    have ih := ih fun q m => hen q (.tail _ m)
    rw [List.filter_cons]
    cases hl : (lastOf r.en == lastOf t) with
    | true => rw [if_pos rfl, List.find?_cons, List.find?_cons, ih]
    | false =>
      rw [if_neg Bool.false_ne_true, List.find?_cons, ih]
      have : lawFits t wh r = false := by
        cases hf : lawFits t wh r with
        | false => rfl
        | true =>
          unfold lawFits at hf
          rw [Bool.and_eq_true] at hf
          have := last_ends (hen r (.head _)) hf.1
          rw [this, beq_self_eq_true] at hl
          cases hl
      rw [this]
theorem stem_law {rs : List Rule} (hen : ∀ r ∈ rs, r.en ≠ []) : ∀ (n : Nat) (t : List Nat) (wh : Bool) (d : List Nat), lawGo rs n t wh = some (some d) → stemGo (bkOf rs) n t wh = some d
  | 0, _, _, _, h => by cases h
  | n + 1, t, wh, d, h => by
    unfold lawGo at h
    unfold stemGo
    cases hv : hasV t with
    | false => rw [hv] at h; cases h
    | true =>
      rw [hv, if_pos rfl] at h
      rw [if_pos rfl]
      have e1 : fits t (firstVowel t) wh = lawFits t wh := funext (fits_law hv wh)
      have e2 : (bkOf rs (t.getD (t.length - 1) 0)).find? (lawFits t wh) = rs.find? (lawFits t wh) := find_bk hen
      rw [e1, e2]
      cases hf : rs.find? (lawFits t wh) with
      | none => rw [hf] at h; injection h
      | some r =>
        rw [hf] at h
        dsimp only at h ⊢
        by_cases h0 : r.n = 0
        · rw [if_pos h0] at h; cases h
        · rw [if_neg h0] at h
          have e3 : cut t r = lawCut t r := by unfold cut lawCut; rw [if_neg h0]
          rw [e3]
          cases ho : r.on with
          | true => rw [ho, if_pos rfl] at h; rw [if_pos rfl]; exact stem_law hen n _ _ _ h
          | false => rw [ho, if_neg Bool.false_ne_true] at h; rw [if_neg Bool.false_ne_true]; injection h

/-! ### the rounds end -/
def flag (c : Nat) : Nat := if c = 105 ∨ c = 99 then 1 else 0
def mu (t : List Nat) : Nat := 2 * t.length + flag (lastOf t)
def contOk (r : Rule) : Bool := !r.on || (decide (r.mo.length < r.n) || (r.mo.length == r.n && (decide (0 < r.mo.length) && (flag (lastOf r.en) == 1 && flag (lastOf r.mo) == 0))))
theorem flag_le (c : Nat) : flag c ≤ 1 := by unfold flag; split <;> omega
theorem lastOf_app {a b : List Nat} (h : 0 < b.length) : lastOf (a ++ b) = lastOf b := by
  unfold lastOf
  rw [List.length_append, List.getD_eq_getElem?_getD, List.getD_eq_getElem?_getD, List.getElem?_append_right (by omega)]
  congr 2
  omega
theorem mu_cut {t : List Nat} {r : Rule} {wh : Bool} (hen : r.en ≠ []) (hn : r.n ≤ r.en.length) (hf : lawFits t wh r = true) (hon : r.on = true) (hc : contOk r = true) : mu (lawCut t r) < mu t := by
  unfold lawFits at hf
  rw [Bool.and_eq_true] at hf
  have hend := hf.1
  have hle : r.en.length ≤ t.length := by
    unfold endsT at hend
    rw [Bool.and_eq_true, decide_eq_true_eq] at hend
    exact hend.1
  have hlen : (lawCut t r).length = t.length - r.n + r.mo.length := by
    unfold lawCut
    rw [List.length_append, List.length_take]; omega
  unfold contOk at hc
  rw [hon] at hc
  simp only [Bool.not_true, Bool.false_or, Bool.or_eq_true, Bool.and_eq_true, decide_eq_true_eq, beq_iff_eq] at hc
  unfold mu
  rw [hlen]
  have f1 := flag_le (lastOf (lawCut t r))
  rcases hc with hc | ⟨h1, h2, h3, h4⟩
  · omega
  · have e1 : lastOf (lawCut t r) = lastOf r.mo := lastOf_app h2
    have e2 := last_ends hen hend
    rw [e1, h4, ← e2, h3]
    omega
theorem law_ends {rs : List Rule} (hr : ∀ r ∈ rs, r.en ≠ [] ∧ r.n ≤ r.en.length ∧ contOk r = true) : ∀ (n : Nat) (t : List Nat) (wh : Bool), mu t < n → ∃ d, lawGo rs n t wh = some d
  | 0, _, _, h => absurd h (Nat.not_lt_zero _)
  | n + 1, t, wh, h => by
    unfold lawGo
    cases hv : hasV t with
    | false => exact ⟨_, rfl⟩
    | true =>
      rw [if_pos rfl]
      cases hf : rs.find? (lawFits t wh) with
      | none => exact ⟨_, rfl⟩
      | some r =>
        dsimp only
        by_cases h0 : r.n = 0
        · rw [if_pos h0]; exact ⟨_, rfl⟩
        · rw [if_neg h0]
          cases ho : r.on with
          | false => rw [if_neg Bool.false_ne_true]; exact ⟨_, rfl⟩
          | true =>
            rw [if_pos rfl]
            obtain ⟨h1, h2, h3⟩ := hr r (List.mem_of_find?_eq_some hf)
            have := mu_cut h1 h2 (List.find?_some hf) ho h3
            exact law_ends hr n _ _ (by omega)
end Mine

end

section
open PySem PySem.W PyProof.Rows PySem.Calls
set_option Elab.async false
set_option linter.unusedVariables false
set_option maxRecDepth 100000
namespace Mine

/-! ## the plain law: one turn -/
theorem runLen_app : ∀ (a b : List Nat), (∀ c ∈ a, isW c = true) → runLen (a ++ b) = a.length + runLen b
  | [], b, _ => by simp
  | c :: a, b, h => by
    show (if isW c then runLen (a ++ b) + 1 else 0) = _
    rw [h c (.head _), if_pos rfl, runLen_app a b fun x m => h x (.tail _ m), List.length_cons]
    omega
theorem wordRun_app {a b : List Nat} (h : ∀ c ∈ a, isW c = true) (hb : runLen b = 0) : wordRun (a ++ b) 0 = a.length := by
  unfold wordRun
  rw [List.drop_zero, runLen_app a b h, hb]; omega
theorem strip_len (l : List Nat) : (stripPrefix l).length ≤ l.length := by
  have go : ∀ ps, (stripGo l ps).length ≤ l.length := fun ps => by
    induction ps with
    | nil => exact Nat.le_refl _
    | cons q r ih =>
      unfold stripGo
      split
      · rw [List.length_drop]; omega
      · exact ih
  exact go prefixes
theorem letRow_in : ∀ (n s : Nat), ∀ c ∈ letRow n s, c ∈ lets
  | _, 0, _, h => by cases h
  | n, s + 1, c, h => by
    unfold letRow at h
    rcases List.mem_cons.mp h with rfl | h
    · have hlt : n % 8 < lets.length := Nat.mod_lt _ (by decide)
      rw [List.getD_eq_getElem?_getD, List.getElem?_eq_getElem hlt]
      exact List.getElem_mem hlt
    · exact letRow_in _ _ c h
theorem lets_W : ∀ c ∈ lets, isW c = true := by decide
theorem prefixes_W : ∀ q ∈ prefixes, ∀ c ∈ q, isW c = true := by decide
theorem wordA_W (xs : List Int) (a : Nat) : ∀ c ∈ wordA xs a, isW c = true := fun c h => by
  unfold wordA at h
  rcases List.mem_append.mp h with h | h
  · split at h
    · rename_i hb
      have hlt : takeN xs a % 18 - 9 < prefixes.length := by
        have : takeN xs a % 18 < 18 := Nat.mod_lt _ (by decide)
        show _ < 9
        omega
      rw [List.getD_eq_getElem?_getD, List.getElem?_eq_getElem hlt] at h
      exact prefixes_W _ (List.getElem_mem hlt) c h
    · cases h
  · exact lets_W c (letRow_in _ _ c h)
theorem wordA_ne (xs : List Int) (a : Nat) : 0 < (wordA xs a).length := by
  unfold wordA
  rw [List.length_append, letRow_len]; omega
theorem addR_W {xs : List Int} {a k : Nat} {rs : List Rule} {w : List Nat} (hr : ∀ r ∈ rs, ∀ c ∈ r.en, isW c = true) (hw : ∀ c ∈ w, isW c = true) : ∀ c ∈ addR xs a rs w k, isW c = true := fun c h => by
  unfold addR at h
  split at h
  · rename_i hp
    have hlt : takeN xs (a + k) % (rs.length + 1) - 1 < rs.length := by
      have := Nat.mod_lt (takeN xs (a + k)) (show 0 < rs.length + 1 by omega)
      omega
    rw [List.getD_eq_getElem?_getD, List.getElem?_eq_getElem hlt] at h
    rcases List.mem_append.mp h with h | h
    · exact hw c h
    · exact hr _ (List.getElem_mem hlt) c h
  · exact hw c h
theorem addR_ge {xs : List Int} {a k : Nat} {rs : List Rule} {w : List Nat} : w.length ≤ (addR xs a rs w k).length := by
  unfold addR
  split
  · rw [List.length_append]; omega
  · exact Nat.le_refl _
theorem lawWord_W {xs : List Int} {a : Nat} {rs : List Rule} (hr : ∀ r ∈ rs, ∀ c ∈ r.en, isW c = true) : (∀ c ∈ lawWord xs a rs, isW c = true) ∧ 0 < (lawWord xs a rs).length := by
  unfold lawWord
  refine ⟨addR_W hr (addR_W hr (wordA_W xs a)), ?_⟩
  have h1 := wordA_ne xs a
  have h2 := addR_ge (xs := xs) (a := a) (k := 2) (rs := rs) (w := wordA xs a)
  have h3 := addR_ge (xs := xs) (a := a) (k := 3) (rs := rs) (w := addR xs a rs (wordA xs a) 2)
  omega
theorem sides_run (k : Nat) : runLen (sides.getD k []) = 0 := by
  by_cases h : k < 6
  · exact (by decide : ∀ k, k < 6 → runLen (sides.getD k []) = 0) k h
  · rw [List.getD_eq_getElem?_getD, List.getElem?_eq_none (by show 6 ≤ k; omega)]; rfl

structure RulesOk (rs : List Rule) : Prop where
  ok : ∀ r ∈ rs, (r.en ≠ [] ∧ r.n ≤ r.en.length ∧ contOk r = true) ∧ (∀ c ∈ r.en, isW c = true) ∧ r.en.length ≤ 100

theorem stem_word {rs : List Rule} (R : RulesOk rs) {w sd d : List Nat} (hw : ∀ c ∈ w, isW c = true) (hp : 0 < w.length) (hs : runLen sd = 0) (h : lawGo rs N0 (stripPrefix w) true = some (some d)) : stemOf (bkOf rs) N0 (w ++ sd) = some d := by
  unfold stemOf
  rw [wordRun_app hw hs, if_neg (by omega), List.take_left']
  · exact stem_law (fun r m => (R.ok r m).1.1) _ _ _ _ h
  · rfl
theorem law_word {rs : List Rule} (R : RulesOk rs) {w : List Nat} (hl : w.length ≤ 211) : ∃ d, lawGo rs N0 (stripPrefix w) true = some d := by
  refine law_ends (fun r m => (R.ok r m).1) N0 _ _ ?_
  have h1 := strip_len w
  have h2 := flag_le (lastOf (stripPrefix w))
  unfold mu
  show _ < 900
  omega
theorem turn_ok {rs : List Rule} (R : RulesOk rs) (xs : List Int) (a : Nat) : TurnOk (bkOf rs) rs xs a := by
  obtain ⟨hW, hp⟩ := lawWord_W (xs := xs) (a := a) (rs := rs) fun r m => (R.ok r m).2.1
  have hl := lawWord_len (xs := xs) (a := a) (rs := rs) fun r m => (R.ok r m).2.2
  refine ⟨?_⟩
  generalize lawWord xs a rs = w at hW hp hl ⊢
  obtain ⟨d0, h0⟩ := law_word R (w := w) (by omega)
  have key : ∀ (w1 : List Nat) (d1 : Option (List Nat)), (∀ c ∈ w1, isW c = true) → 0 < w1.length → lawGo rs N0 (stripPrefix w1) true = some d1 →
      (takeN xs (a + 4) % 7 ≠ 6 → ∀ d, d1 = some d → ∃ n, n ≤ N0 ∧ stemOf (bkOf rs) n (w1 ++ sides.getD (takeN xs (a + 4) % 7) []) = some d) ∧ (takeN xs (a + 4) % 7 = 6 → ∃ n, n ≤ N0 ∧ stemOf (bkOf rs) n (45 :: w1) = some (45 :: w1)) := by
    intro w1 d1 q1 q2 q3
    refine ⟨fun _ d e => ⟨N0, Nat.le_refl _, ?_⟩, fun _ => ⟨N0, Nat.le_refl _, rfl⟩⟩
    subst e
    exact stem_word R q1 q2 (sides_run _) q3
  by_cases hd : d0 = none
  · have hW1 : ∀ c ∈ 101 :: w, isW c = true := fun c m => by
      rcases List.mem_cons.mp m with rfl | m
      · decide
      · exact hW c m
    obtain ⟨d1, h1⟩ := law_word R (w := 101 :: w) (by rw [List.length_cons]; omega)
    obtain ⟨k1, k2⟩ := key _ d1 hW1 (by rw [List.length_cons]; omega) h1
    exact ⟨d0, 101 :: w, d1, h0, fun z => absurd hd z, fun _ => ⟨rfl, h1⟩, k1, k2⟩
  · obtain ⟨k1, k2⟩ := key _ d0 hW hp h0
    exact ⟨d0, w, d0, h0, fun _ => ⟨rfl, rfl⟩, fun z => absurd z hd, k1, k2⟩
/-- the default rules -/
theorem d_rules : RulesOk dRules := ⟨by
  have h : (dRules.all fun r => !r.en.isEmpty && (decide (r.n ≤ r.en.length) && (contOk r && (r.en.all isW && decide (r.en.length ≤ 100))))) = true := by decide +kernel
  intro r m
  have := List.all_eq_true.mp h r m
  simp only [Bool.and_eq_true, Bool.not_eq_true', decide_eq_true_eq, List.all_eq_true] at this
  obtain ⟨h1, h2, h3, h4, h5⟩ := this
  exact ⟨⟨(fun z => by rw [z] at h1; cases h1), h2, h3⟩, h4, h5⟩⟩
theorem own_ok (xs : List Int) (k : Nat) : TurnOk stdBk ((dLines.filter fun l => l != []).map lawRead) xs (7 + 5 * k) := by
  rw [d_law, stdBk_eq]
  exact turn_ok d_rules xs _
/-- the drawn rules -/
theorem lawRule_W (n : Nat) : ∀ c ∈ (lawRule n).en, c ∈ lets := letRow_in _ _
theorem o_rules (xs : List Int) : RulesOk (rulesO xs) := ⟨fun r m => by
  obtain ⟨k, _, rfl⟩ := List.mem_map.mp m
  generalize takeN xs (2 + k) = n
  have h1 := lawRule_en n
  have h2 := lawRule_n n
  refine ⟨⟨(fun z => by rw [z] at h1; simp at h1; omega), h2.2, ?_⟩, fun c m => lets_W c (lawRule_W n c m), by omega⟩
  unfold contOk
  cases ho : (lawRule n).on with
  | false => rfl
  | true =>
    have : (decide (3 < n % 13) && decide ((lawRule n).mo.length < (lawRule n).n)) = true := ho
    rw [Bool.and_eq_true] at this
    rw [this.2]; rfl⟩
end Mine

end

section
open PySem PySem.W PyProof.Rows PySem.Calls
set_option Elab.async false
set_option linter.unusedVariables false
set_option maxRecDepth 100000
namespace Mine

/-! ## the plain law: a row of the table is read -/
abbrev sp (c : Nat) : Bool := Unicode.isSpace c
theorem takeWhile_app {p : Nat → Bool} : ∀ (a b : List Nat), (∀ c ∈ a, p c = true) → (a ++ b).takeWhile p = a ++ b.takeWhile p
  | [], _, _ => rfl
  | c :: a, b, h => by
    show (c :: (a ++ b)).takeWhile p = _
    rw [List.takeWhile_cons, h c (.head _), if_pos rfl, takeWhile_app a b fun x m => h x (.tail _ m)]
    rfl
theorem stripT_eq (l : List Nat) : stripT l = (l.drop (l.takeWhile sp).length).take (l.length - ((l.drop (l.takeWhile sp).length).reverse.takeWhile sp).length - (l.takeWhile sp).length) := by
  have lo : stripLo Unicode.isSpace true (T l) = (l.takeWhile sp).length := by
    show ((T l).cps.toList.takeWhile _).length = _
    rw [T_cps]
  have hi : stripHi Unicode.isSpace true (T l) (l.takeWhile sp).length = l.length - ((l.drop (l.takeWhile sp).length).reverse.takeWhile sp).length := by
    show (T l).length - (((T l).cps.toList.drop _).reverse.takeWhile _).length = _
    rw [T_cps, T_len]
  unfold stripT Txt.strip Txt.stripBy
  cases hs : stripSame Unicode.isSpace true true (T l) with
  | true =>
    rw [if_pos rfl, T_cps]
    unfold stripSame at hs
    rw [lo, hi, Bool.and_eq_true, beq_iff_eq, beq_iff_eq, T_len] at hs
    rw [hs.2, hs.1, List.drop_zero, Nat.sub_zero, List.take_length]
  | false =>
    rw [if_neg Bool.false_ne_true]
    unfold PySem.stripped
    rw [lo, hi, StrLaws.strSub_toList, T_cps]
theorem takeWhile_nil {p : Nat → Bool} {l : List Nat} (h : ∀ c, l.head? = some c → p c = false) : l.takeWhile p = [] := by
  cases l with
  | nil => rfl
  | cons c r => rw [List.takeWhile_cons, h c rfl]; rfl
/-- blanks ahead of a row go -/
theorem strip_row {a m : List Nat} (ha : ∀ c ∈ a, sp c = true) (hne : m ≠ []) (hf : ∀ c, m.head? = some c → sp c = false) (hl : ∀ c, m.reverse.head? = some c → sp c = false) : stripT (a ++ m) = m := by
  rw [stripT_eq, takeWhile_app a m ha, takeWhile_nil hf, List.append_nil, List.drop_left' rfl, takeWhile_nil hl]
  rw [List.length_nil, Nat.sub_zero, List.length_append, Nat.add_sub_cancel_left, List.take_length]

/-! ### the row's reading -/
theorem getD_app {a b : List Nat} {x : Nat} : (a ++ x :: b).getD a.length 0 = x := by
  rw [List.getD_eq_getElem?_getD, List.getElem?_append_right (Nat.le_refl _), Nat.sub_self]; rfl
theorem digit_val {n : Nat} (h : n < 10) : NumText.digitsVal [48 + n] = n := by
  match n, h with
  | 0, _ | 1, _ | 2, _ | 3, _ | 4, _ | 5, _ | 6, _ | 7, _ | 8, _ | 9, _ => decide
theorem letter_not_fig : ∀ c ∈ lets, isF c = false := by decide
theorem digit_W : ∀ n, n < 10 → isW (48 + n) = true ∧ isF (48 + n) = true := by decide
theorem read_star {e mo tl : List Nat} {n c : Nat} (he : ∀ x ∈ e, isW x = true) (hp : 0 < e.length) (hn : n < 10) (hm : ∀ x ∈ mo, x ∈ lets) (hc : c = 46 ∨ c = 62) :
    readRule (e ++ 42 :: (48 + n) :: (mo ++ c :: tl)) = some ⟨e, true, n, mo, [c] == [62]⟩ := by
  have hcW : isW c = false ∧ isE c = true ∧ isF c = false := by rcases hc with rfl | rfl <;> decide
  have hmW : ∀ x ∈ mo, isW x = true := fun x h => lets_W x (hm x h)
  have k1 : wordRun (e ++ 42 :: (48 + n) :: (mo ++ c :: tl)) 0 = e.length := wordRun_app he rfl
  have d1 : (e ++ 42 :: (48 + n) :: (mo ++ c :: tl)).drop (e.length + 1) = (48 + n) :: (mo ++ c :: tl) := by
    rw [List.drop_append, List.drop_of_length_le (by omega)]
    simp
  have d2 : (e ++ 42 :: (48 + n) :: (mo ++ c :: tl)).drop (e.length + 2) = mo ++ c :: tl := by
    rw [List.drop_append, List.drop_of_length_le (by omega)]
    simp
  have f0 : figLen (mo ++ c :: tl) = 0 := by
    cases mo with
    | nil => show (if isF c then _ else 0) = 0; rw [hcW.2.2]; rfl
    | cons x r => show (if isF x then _ else 0) = 0; rw [letter_not_fig x (hm x (.head _))]; rfl
  have q1 : figRun (e ++ 42 :: (48 + n) :: (mo ++ c :: tl)) (e.length + 1) = e.length + 2 := by
    unfold figRun
    rw [d1]
    show e.length + 1 + (if isF (48 + n) then figLen (mo ++ c :: tl) + 1 else 0) = _
    rw [(digit_W n hn).2, if_pos rfl, f0]
  have r1 : wordRun (e ++ 42 :: (48 + n) :: (mo ++ c :: tl)) (e.length + 2) = e.length + 2 + mo.length := by
    unfold wordRun
    rw [d2, runLen_app mo (c :: tl) hmW]
    show e.length + 2 + (mo.length + (if isW c then _ else 0)) = _
    rw [hcW.1]; rfl
  have g1 : (e ++ 42 :: (48 + n) :: (mo ++ c :: tl)).getD e.length 0 = 42 := getD_app
  have g2 : (e ++ 42 :: (48 + n) :: (mo ++ c :: tl)).getD (e.length + 2 + mo.length) 0 = c := by
    have : e ++ 42 :: (48 + n) :: (mo ++ c :: tl) = (e ++ 42 :: (48 + n) :: mo) ++ c :: tl := by simp
    rw [this]
    have hl : (e ++ 42 :: (48 + n) :: mo).length = e.length + 2 + mo.length := by simp; omega
    rw [← hl]
    exact getD_app
  have len : (e ++ 42 :: (48 + n) :: (mo ++ c :: tl)).length = e.length + 2 + mo.length + 1 + tl.length := by simp; omega
  have t1 : (e ++ 42 :: (48 + n) :: (mo ++ c :: tl)).take e.length = e := List.take_left' rfl
  generalize hL : e ++ 42 :: (48 + n) :: (mo ++ c :: tl) = l at *
  unfold readRule
  dsimp only
  rw [k1, g1, decide_eq_true hp, decide_eq_true (show e.length < l.length by omega)]
  rw [if_pos (by rfl), q1, r1, g2, decide_eq_true (show e.length + 1 < e.length + 2 by omega), decide_eq_true (show e.length + 2 + mo.length < l.length by omega), hcW.2.1, if_pos (by rfl), t1, d1, d2]
  rw [show e.length + 2 - (e.length + 1) = 1 by omega, show e.length + 2 + mo.length - (e.length + 2) = mo.length by omega, List.take_left' rfl]
  show some (Rule.mk e true (NumText.digitsVal [48 + n]) mo _) = _
  rw [digit_val hn]
theorem back_to {l : List Nat} {j : Nat} (hj : 0 < j) (hf : isF (l.getD j 0) = true) : ∀ i, (∀ x, x < i → isF (l.getD (j + 1 + x) 0) = false) → back l (j + i) = j
  | 0, _ => by
    obtain ⟨j, rfl⟩ : ∃ k, j = k + 1 := ⟨j - 1, by omega⟩
    show (if isF (l.getD (j + 1) 0) then j + 1 else back l j) = j + 1
    rw [hf]; rfl
  | i + 1, h => by
    show (if isF (l.getD (j + i + 1) 0) then j + i + 1 else back l (j + i)) = j
    have := h i (Nat.lt_succ_self i)
    rw [show j + i + 1 = j + 1 + i by omega, this]
    exact back_to hj hf i fun x hx => h x (by omega)
theorem read_plain {e mo tl : List Nat} {n c : Nat} (he : ∀ x ∈ e, isW x = true) (hp : 0 < e.length) (hn : n < 10) (hm : ∀ x ∈ mo, x ∈ lets) (hc : c = 46 ∨ c = 62) :
    readRule (e ++ (48 + n) :: (mo ++ c :: tl)) = some ⟨e, false, n, mo, [c] == [62]⟩ := by
  have hcW : isW c = false ∧ isE c = true ∧ isF c = false ∧ ([c] == [42]) = false := by rcases hc with rfl | rfl <;> decide
  have hmW : ∀ x ∈ mo, isW x = true := fun x h => lets_W x (hm x h)
  have heW : ∀ x ∈ e ++ (48 + n) :: mo, isW x = true := fun x h => by
    rcases List.mem_append.mp h with h | h
    · exact he x h
    · rcases List.mem_cons.mp h with rfl | h
      · exact (digit_W n hn).1
      · exact hmW x h
  have eL : e ++ (48 + n) :: (mo ++ c :: tl) = (e ++ (48 + n) :: mo) ++ c :: tl := by simp
  have hl : (e ++ (48 + n) :: mo).length = e.length + 1 + mo.length := by simp; omega
  have k1 : wordRun (e ++ (48 + n) :: (mo ++ c :: tl)) 0 = e.length + 1 + mo.length := by
    rw [eL, wordRun_app heW, hl]
    show (if isW c then _ else 0) = 0
    rw [hcW.1]; rfl
  have g1 : (e ++ (48 + n) :: (mo ++ c :: tl)).getD e.length 0 = 48 + n := getD_app
  have g2 : (e ++ (48 + n) :: (mo ++ c :: tl)).getD (e.length + 1 + mo.length) 0 = c := by
    rw [eL, ← hl]; exact getD_app
  have g3 : ∀ x, x < mo.length → isF ((e ++ (48 + n) :: (mo ++ c :: tl)).getD (e.length + 1 + x) 0) = false := fun x hx => by
    have : (e ++ (48 + n) :: (mo ++ c :: tl)).getD (e.length + 1 + x) 0 = mo.getD x 0 := by
      rw [List.getD_eq_getElem?_getD, List.getD_eq_getElem?_getD, List.getElem?_append_right (by omega), show e.length + 1 + x - e.length = x + 1 by omega, List.getElem?_cons_succ, List.getElem?_append_left hx]
    rw [this, List.getD_eq_getElem?_getD, List.getElem?_eq_getElem hx]
    exact letter_not_fig _ (hm _ (List.getElem_mem hx))
  have len : (e ++ (48 + n) :: (mo ++ c :: tl)).length = e.length + 1 + mo.length + 1 + tl.length := by simp; omega
  have t1 : (e ++ (48 + n) :: (mo ++ c :: tl)).take e.length = e := List.take_left' rfl
  have d1 : (e ++ (48 + n) :: (mo ++ c :: tl)).drop (e.length + 1) = mo ++ c :: tl := by
    rw [List.drop_append, List.drop_of_length_le (by omega)]
    simp
  generalize hL : e ++ (48 + n) :: (mo ++ c :: tl) = l at *
  have b1 : back l (e.length + 1 + mo.length - 1) = e.length := by
    rw [show e.length + 1 + mo.length - 1 = e.length + mo.length by omega]
    exact back_to hp (by rw [g1]; exact (digit_W n hn).2) _ g3
  unfold readRule
  dsimp only
  rw [k1, g2, hcW.2.2.2, Bool.and_false, Bool.and_false, if_neg Bool.false_ne_true, b1, decide_eq_true hp, decide_eq_true (show e.length + 1 + mo.length < l.length by omega), hcW.2.1, if_pos (by rfl), t1, g1, d1, digit_val hn]
  rw [show e.length + 1 + mo.length - (e.length + 1) = mo.length by omega, List.take_left' rfl]
end Mine

end

section
open PySem PySem.W PyProof.Rows PySem.Calls
set_option Elab.async false
set_option linter.unusedVariables false
set_option maxRecDepth 100000
namespace Mine

/-! ## the plain law: the drawn table -/
theorem splitL_hit {c x : Nat} (h : (x == c) = true) (r : List Nat) : splitL c (x :: r) = [] :: splitL c r := by
  conv => lhs; unfold splitL
  rw [h]
theorem splitL_miss {c x : Nat} (h : (x == c) = false) {r p : List Nat} {t : List (List Nat)} (e : splitL c r = p :: t) : splitL c (x :: r) = (x :: p) :: t := by
  conv => lhs; unfold splitL
  rw [h, e]
theorem splitL_sep (c : Nat) : ∀ (x y : List Nat), splitL c (x ++ c :: y) = splitL c x ++ splitL c y
  | [], y => splitL_hit (beq_self_eq_true c) y
  | a :: x, y => by
    have ih := splitL_sep c x y
    show splitL c (a :: (x ++ c :: y)) = splitL c (a :: x) ++ _
    obtain ⟨h, t, e⟩ := splitL_ne c x
    cases ha : a == c with
    | true => rw [splitL_hit ha, splitL_hit ha, ih]; rfl
    | false =>
      rw [e] at ih
      rw [splitL_miss ha e, splitL_miss ha (p := h) (t := t ++ splitL c y) ih]
      rfl
theorem splitL_one {c : Nat} {l : List Nat} (h : c ∉ l) : splitL c l = [l] := by
  have := splitL_app c l h [] [] [] rfl
  rwa [List.append_nil] at this
theorem splitL_len (c : Nat) : ∀ (l : List Nat), ∀ p ∈ splitL c l, p.length ≤ l.length
  | [], p, h => by
    rw [show splitL c [] = [[]] from rfl, List.mem_singleton] at h
    subst h; exact Nat.le_refl _
  | a :: l, p, h => by
    have ih := splitL_len c l
    unfold splitL at h
    cases ha : a == c with
    | true =>
      rw [ha] at h
      rcases List.mem_cons.mp h with rfl | h
      · exact Nat.zero_le _
      · exact Nat.le_succ_of_le (ih p h)
    | false =>
      rw [ha] at h
      obtain ⟨q, t, e⟩ := splitL_ne c l
      rw [e] at h ih
      rcases List.mem_cons.mp h with rfl | h
      · exact Nat.succ_le_succ (ih q (.head _))
      · exact Nat.le_succ_of_le (ih p (.tail _ h))
theorem split_join : ∀ (rows : List (List Nat)), rows ≠ [] → splitL 10 (joinT [10] rows) = rows.flatMap (splitL 10)
  | [], h => absurd rfl h
  | [l], _ => by
    show splitL 10 l = splitL 10 l ++ []
    rw [List.append_nil]
  | l :: m :: r, _ => by
    show splitL 10 (l ++ [10] ++ joinT [10] (m :: r)) = splitL 10 l ++ (m :: r).flatMap (splitL 10)
    rw [← split_join (m :: r) (by simp), List.append_assoc]
    exact splitL_sep 10 l _
theorem joinT_len : ∀ (rows : List (List Nat)), (∀ l ∈ rows, l.length ≤ 31) → (joinT [10] rows).length ≤ 32 * rows.length
  | [], _ => Nat.le_refl _
  | [l], h => by
    have := h l (.head _)
    show l.length ≤ 32 * 1
    omega
  | l :: m :: r, h => by
    have h1 := h l (.head _)
    have h2 := joinT_len (m :: r) fun x hx => h x (.tail _ hx)
    show (l ++ [10] ++ joinT [10] (m :: r)).length ≤ 32 * ((m :: r).length + 1)
    rw [List.length_append, List.length_append, List.length_singleton]
    omega
theorem readLines_app : ∀ (a b : List (List Nat)), readLines (a ++ b) = (readLines a).bind fun x => (readLines b).map (x ++ ·)
  | [], b => by
    show readLines b = (readLines b).map ([] ++ ·)
    cases readLines b <;> rfl
  | l :: a, b => by
    have ih := readLines_app a b
    have cons : ∀ r, readLines (l :: r) = if (stripT l).isEmpty then readLines r else match readRule (stripT l) with
      | none => none
      | some q => (readLines r).map (turned q :: ·) := fun _ => rfl
    show readLines (l :: (a ++ b)) = _
    rw [cons, cons]
    cases (stripT l).isEmpty with
    | true => rw [if_pos rfl, if_pos rfl, ih]
    | false =>
      rw [if_neg Bool.false_ne_true, if_neg Bool.false_ne_true, ih]
      cases readRule (stripT l) with
      | none => rfl
      | some q =>
        dsimp only
        cases readLines a with
        | none => rfl
        | some x =>
          cases readLines b with
          | none => rfl
          | some y => rfl
/-- what a drawn rule is like -/
structure Drawn' (r : Rule) : Prop where
  en : ∀ c ∈ r.en, c ∈ lets
  ne : 0 < r.en.length
  n : r.n < 10
  mo : ∀ c ∈ r.mo, c ∈ lets
theorem drawn (n : Nat) : Drawn' (lawRule n) := by
  have h1 := lawRule_en n
  have h2 := lawRule_b n
  refine ⟨lawRule_W n, by omega, by omega, fun c m => ?_⟩
  have hm : ∀ i, i < 7 → ∀ c ∈ mores.getD i [], c ∈ lets := by decide
  exact hm (n % 7) (Nat.mod_lt _ (by decide)) c m
theorem read_rowOf {r : Rule} (D : Drawn' r) (tl : List Nat) : readRule (rowOf r ++ tl) = some ⟨r.en.reverse, r.al, r.n, r.mo, r.on⟩ := by
  have he : ∀ x ∈ r.en.reverse, isW x = true := fun x m => lets_W x (D.en x (List.mem_reverse.mp m))
  have hp : 0 < r.en.reverse.length := by rw [List.length_reverse]; exact D.ne
  have hon : ∀ (c : Nat), c = (if r.on then 62 else 46) → (c = 46 ∨ c = 62) ∧ ([c] == [62]) = r.on := by
    intro c hc
    subst hc
    cases r.on
    · exact ⟨.inl rfl, rfl⟩
    · exact ⟨.inr rfl, rfl⟩
  obtain ⟨h1, h2⟩ := hon _ rfl
  have e1 : (if r.on then [62] else [46] : List Nat) = [if r.on then 62 else 46] := by cases r.on <;> rfl
  cases ha : r.al with
  | true =>
    have e2 : rowOf r ++ tl = r.en.reverse ++ 42 :: (48 + r.n) :: (r.mo ++ (if r.on then 62 else 46) :: tl) := by
      unfold rowOf
      rw [ha, e1]; simp
    rw [e2, read_star he hp D.n D.mo h1, h2]
  | false =>
    have e2 : rowOf r ++ tl = r.en.reverse ++ (48 + r.n) :: (r.mo ++ (if r.on then 62 else 46) :: tl) := by
      unfold rowOf
      rw [ha, e1]; simp
    rw [e2, read_plain he hp D.n D.mo h1, h2]
theorem lets_sp : ∀ c ∈ lets, sp c = false ∧ c ≠ 10 := by decide +kernel
/-- a row with blanks ahead and a remark behind -/
theorem read_one {r : Rule} (D : Drawn' r) {a tl : List Nat} (ha : ∀ c ∈ a, sp c = true) (ht : ∀ c, (tl.reverse ++ [62]).head? = some c → sp c = false) (ht' : ∀ c, (tl.reverse ++ [46]).head? = some c → sp c = false) :
    readLines [a ++ (rowOf r ++ tl)] = some [r] := by
  obtain ⟨x, xs, hx⟩ : ∃ x xs, r.en.reverse = x :: xs := by
    cases h : r.en.reverse with
    | nil => exact absurd D.ne (by rw [← List.length_reverse, h]; exact Nat.lt_irrefl 0)
    | cons x xs => exact ⟨x, xs, rfl⟩
  have hxl : x ∈ lets := D.en x (List.mem_reverse.mp (hx ▸ .head _))
  have hs : stripT (a ++ (rowOf r ++ tl)) = rowOf r ++ tl := by
    refine strip_row ha ?_ (fun c h => ?_) (fun c h => ?_)
    · unfold rowOf; rw [hx]; simp
    · have : (rowOf r ++ tl).head? = some x := by unfold rowOf; rw [hx]; simp
      rw [this] at h; cases h
      exact (lets_sp x hxl).1
    · cases ho : r.on with
      | true =>
        have : (rowOf r ++ tl).reverse.head? = (tl.reverse ++ [62]).head? := by
          unfold rowOf; rw [ho]
          cases htl : tl.reverse <;> simp [htl]
        rw [this] at h; exact ht c h
      | false =>
        have : (rowOf r ++ tl).reverse.head? = (tl.reverse ++ [46]).head? := by
          unfold rowOf; rw [ho]
          cases htl : tl.reverse <;> simp [htl]
        rw [this] at h; exact ht' c h
  unfold readLines
  rw [hs, read_rowOf D]
  have hne : (rowOf r ++ tl).isEmpty = false := by unfold rowOf; rw [hx]; rfl
  rw [hne, if_neg Bool.false_ne_true]
  show (readLines []).map (turned ⟨r.en.reverse, r.al, r.n, r.mo, r.on⟩ :: ·) = _
  unfold turned
  dsimp only
  rw [List.reverse_reverse]
  rfl
end Mine

end

section
open PySem PySem.W PyProof.Rows PySem.Calls
set_option Elab.async false
set_option linter.unusedVariables false
set_option maxRecDepth 100000
namespace Mine

/-! ## the plain law: every script -/
theorem rowOf_no {r : Rule} (D : Drawn' r) : (10 : Nat) ∉ rowOf r := by
  intro h
  unfold rowOf at h
  simp only [List.mem_append, List.mem_reverse, List.mem_singleton] at h
  have ten : (10 : Nat) ∉ lets := by decide
  rcases h with (((h | h) | h) | h) | h
  · exact ten (D.en _ h)
  · cases ha : r.al <;> rw [ha] at h <;> simp at h
  · omega
  · exact ten (D.mo _ h)
  · cases ha : r.on <;> rw [ha] at h <;> simp at h
theorem pre_sp (k : Nat) : (∀ c ∈ pre2.getD (k % 2) [], sp c = true) ∧ (10 : Nat) ∉ pre2.getD (k % 2) [] := by
  have h : ∀ i, i < 2 → (∀ c ∈ pre2.getD i [], sp c = true) ∧ (10 : Nat) ∉ pre2.getD i [] := by decide +kernel
  exact h _ (Nat.mod_lt _ (by decide))
theorem read_told {r : Rule} (D : Drawn' r) (k : Nat) : readLines (splitL 10 (told r k)) = some [r] := by
  obtain ⟨ps, pn⟩ := pre_sp k
  unfold told
  generalize pre2.getD (k % 2) [] = a at ps pn
  have no : (10 : Nat) ∉ a ++ rowOf r := fun h => (List.mem_append.mp h).elim pn (rowOf_no D)
  have plain : readLines [a ++ rowOf r] = some [r] := by
    have := read_one D (tl := []) ps (fun c h => by cases h; decide +kernel) (fun c h => by cases h; decide +kernel)
    rwa [List.append_nil] at this
  have h4 : ∀ i, i < 4 → i = 0 ∨ i = 1 ∨ i = 2 ∨ i = 3 := by omega
  rcases h4 (k / 2 % 4) (Nat.mod_lt _ (by decide)) with e | e | e | e <;> rw [e]
  · show readLines (splitL 10 (a ++ rowOf r ++ [])) = _
    rw [List.append_nil, splitL_one no, plain]
  · show readLines (splitL 10 (a ++ rowOf r ++ [32, 32, 32, 123, 32, 97, 32, 114, 101, 109, 97, 114, 107, 32, 62, 32, 49, 46, 32, 125])) = _
    rw [splitL_one (fun h => (List.mem_append.mp h).elim no (by decide)), List.append_assoc]
    exact read_one D ps (fun c h => by cases h; decide +kernel) (fun c h => by cases h; decide +kernel)
  · show readLines (splitL 10 (a ++ rowOf r ++ 10 :: [])) = _
    rw [splitL_sep, splitL_one no, readLines_app, plain]
    have : readLines (splitL 10 []) = some [] := by kernel_rfl!
    rw [this]; rfl
  · show readLines (splitL 10 (a ++ rowOf r ++ 10 :: [32, 32, 32])) = _
    rw [splitL_sep, splitL_one no, readLines_app, plain]
    have : readLines (splitL 10 [32, 32, 32]) = some [] := by kernel_rfl!
    rw [this]; rfl
theorem read_rows : ∀ (ks : List (Nat × Nat)), readLines ((ks.map fun p => told (lawRule p.1) p.2).flatMap (splitL 10)) = some (ks.map fun p => lawRule p.1)
  | [] => rfl
  | p :: ks => by
    show readLines (splitL 10 (told (lawRule p.1) p.2) ++ (ks.map fun p => told (lawRule p.1) p.2).flatMap (splitL 10)) = _
    rw [readLines_app, read_told (drawn _), read_rows ks]
    rfl
theorem fault_none (f : Nat) (h : f < 6) : readLines (splitL 10 (faults.getD f [])) = none :=
  (by decide +kernel : ∀ f, f < 6 → readLines (splitL 10 (faults.getD f [])) = none) f h
def keys (xs : List Int) : List (Nat × Nat) := (List.range (1 + takeN xs 1 % 5)).map fun k => (takeN xs (2 + k), takeN xs (2 + k) / 7)
theorem rowsO_keys (xs : List Int) : rowsO xs = (keys xs).map fun p => told (lawRule p.1) p.2 := by
  unfold rowsO keys
  rw [List.map_map]; rfl
theorem rulesO_keys (xs : List Int) : rulesO xs = (keys xs).map fun p => lawRule p.1 := by
  unfold rulesO keys
  rw [List.map_map]; rfl
theorem rowsF_ne (xs : List Int) : rowsF xs ≠ [] := by
  have := rowsO_len (xs := xs)
  intro z
  unfold rowsF at z
  split at z
  · simp at z
  · rw [z, List.length_nil] at this; omega
theorem other_ok (xs : List Int) : OtherOk xs (bkOf (rulesO xs)) where
  len := by
    have h1 := joinT_len (rowsF xs) rowsF_row
    have h2 := rowsF_len (xs := xs)
    unfold tableO; omega
  lines := fun ln h => by
    rw [splitT_eq] at h
    have h0 := splitL_len 10 _ ln h
    have h1 := joinT_len (rowsF xs) rowsF_row
    have h2 := rowsF_len (xs := xs)
    unfold tableO at h0; omega
  bad := fun hf => by
    rw [splitT_eq]
    unfold tableO
    rw [split_join _ (rowsF_ne xs)]
    unfold rowsF
    rw [if_pos hf, List.flatMap_append, List.flatMap_append, readLines_app, readLines_app]
    have : ([faults.getD (faultN xs) []] : List (List Nat)).flatMap (splitL 10) = splitL 10 (faults.getD (faultN xs) []) := by simp
    rw [this, fault_none _ hf]
    cases readLines (List.flatMap (splitL 10) (List.take (faultN xs % ((rowsO xs).length + 1)) (rowsO xs))) <;> rfl
  good := fun hf => ⟨rulesO xs, by
    rw [splitT_eq]
    unfold tableO
    rw [split_join _ (rowsF_ne xs)]
    unfold rowsF
    rw [if_neg hf, rowsO_keys, read_rows, rulesO_keys], rfl⟩
theorem script_ok (xs : List Int) : ScriptOk dLines xs where
  own := fun _ k _ => own_ok xs k
  other := fun _ => ⟨bkOf (rulesO xs), other_ok xs, fun _ => ⟨fun c => ⟨Nat.le_trans (List.length_filter_le _ _) (by
    unfold rulesO
    rw [List.length_map, List.length_range]
    have := Nat.mod_lt (takeN xs 1) (show 0 < 5 by decide)
    omega), fun r h => by
      obtain ⟨a, b, _⟩ := rulesO_b r (List.mem_filter.mp h).1
      omega⟩, fun k _ => turn_ok (o_rules xs) xs _⟩⟩
end Mine

end

open PySem PySem.W PyProof.Rows
set_option Elab.async false
set_option maxRecDepth 100000 in
set_option maxHeartbeats 8000000 in
theorem PySem.Challenge.cw_iu0048_01_holds : PySem.Challenge.rw_iu0048_01.Holds := by
  o_law
  exact Mine.row_holds (fun xs _ => Mine.script_ok xs) (by assumption)
