import PyProof.Rows.All
import PyProof.Rows.ExtendIn
import KE.BitLaws
import KE.KItem
import KE.KTup
import Wide.FinOn
import OpenK.AllK
import Wide.All
import PySem.Challenge.RW_im0095_04
/-! text M1 -/
open PySem PySem.W PyProof.Rows PySem.Spec PySem.Calls
set_option Elab.async false
set_option maxRecDepth 100000
set_option genSizeOf false
set_option genInjectivity false
namespace Mine

theorem no_ {α : Type} {a : α} {C : Prop} (h : (none : Option α) = some a) : C := nomatch h
theorem nb_ {C : Prop} (h : false = true) : C := nomatch h
/-! abstract values, objects, states -/
inductive Blt where
  | len | sum | range | isinstance | bool | str
noncomputable def Blt.value : Blt → Value
  | .len => .builtin "len"
  | .sum => .builtin "sum"
  | .range => .type "range"
  | .isinstance => .builtin "isinstance"
  | .bool => .type "bool"
  | .str => .type "str"
inductive AV where
  | cint (i : Int)
  | int (i : Int)
  | any
  | str (x : Str)
  | cb (b : Bool)
  | bool (b : Bool)
  | obj (i : Nat)
  | val (v : Value)
  | blt (b : Blt)
  | top
inductive AO where
  | list (xs : List AV)
  | il (xs : List Int)
  | tup (xs : List AV)
  | dict (es : List (Str × AV))
  | inst (C : Addr) (d : Nat)
  | attrs (es : List (Str × AV))
  | meth (f : Addr) (self : AV)
  | cell (v : Option AV)
  | rng (a b c : Int)
  | junk
structure S where
  objs : List AO
  locs : List (Str × Option AV)
  cells : List (Str × Nat)

noncomputable def RV (as : List Addr) : AV → Value → Prop
  | .cint i, v => ∃ t, v = .int i t
  | .int i, v => ∃ t, v = .int i t
  | .any, v => ∃ i t, v = .int i t
  | .str x, v => ∃ t, v = .str x t
  | .cb b, v => v = .bool b
  | .bool b, v => v = .bool b
  | .obj i, v => ∃ a, as[i]? = some a ∧ v = .ref a
  | .val u, v => v = u
  | .blt b, v => v = b.value
  | .top, _ => True
inductive RVs (as : List Addr) : List AV → List Value → Prop
  | nil : RVs as [] []
  | cons {x xs v vs} : RV as x v → RVs as xs vs → RVs as (x :: xs) (v :: vs)
noncomputable def RE (P : Params) (as : List Addr) (p : Str × AV) (e : DictEntry) : Prop := ∃ t v, e = ⟨PyData.keyHash P p.1, .str p.1 t, v⟩ ∧ RV as p.2 v
inductive REs (P : Params) (as : List Addr) : List (Str × AV) → List DictEntry → Prop
  | nil : REs P as [] []
  | cons {p ps e es} : RE P as p e → REs P as ps es → REs P as (p :: ps) (e :: es)
noncomputable def RO (P : Params) (as : List Addr) : AO → Obj → Prop
  | .list xs, o => ∃ vs n, o = listOf vs n ∧ RVs as xs vs.toList
  | .il xs, o => ∃ vs n, o = listOf vs n ∧ IntsAre vs.toList xs
  | .tup xs, o => ∃ vs n, o = { cls := .type "tuple", data := .seq vs n } ∧ RVs as xs vs.toList
  | .dict es, o => ∃ l n, o = dictOf l n ∧ REs P as es l ∧ (es.map (·.1)).Nodup
  | .inst C d, o => ∃ a, as[d]? = some a ∧ o = instObj C a
  | .attrs es, o => ∃ l n, o = dictOf l n ∧ REs P as es l ∧ (es.map (·.1)).Nodup
  | .meth f x, o => ∃ v, RV as x v ∧ o = methodObj (.ref f) v
  | .cell v, o => ∃ u, o.data = .cell u ∧ match v, u with | some x, some y => RV as x y | none, none => True | _, _ => False
  | .rng a b c, o => ∃ t u v, o = { cls := .type "range", data := .fields #[.int a t, .int b u, .int c v] }
  | .junk, _ => True

theorem getElem?_app {α : Type} {l r : List α} {i : Nat} {a : α} (h : l[i]? = some a) : (l ++ r)[i]? = some a := by
  rw [List.getElem?_append_left (List.getElem?_eq_some_iff.mp h).1]; exact h
/-- another list of addresses that tells the same at the named places -/
noncomputable def Le (as bs : List Addr) : Prop := ∀ (i : Nat) a, as[i]? = some a → bs[i]? = some a
theorem Le.app {as bs : List Addr} : Le as (as ++ bs) := fun _ _ h => getElem?_app h
theorem RV.le {as bs : List Addr} {x : AV} {v : Value} (q : Le as bs) (h : RV as x v) : RV bs x v := by
  cases x with
  | obj i => obtain ⟨a, e, r⟩ := h; exact ⟨a, q _ _ e, r⟩
  | _ => exact h
theorem RV.up {as bs : List Addr} {x : AV} {v : Value} (h : RV as x v) : RV (as ++ bs) x v := h.le .app
theorem RVs.le {as bs : List Addr} {xs : List AV} {vs : List Value} (q : Le as bs) (h : RVs as xs vs) : RVs bs xs vs := by
  induction h with
  | nil => exact .nil
  | cons h _ ih => exact .cons (h.le q) ih
theorem RVs.up {as bs : List Addr} {xs : List AV} {vs : List Value} (h : RVs as xs vs) : RVs (as ++ bs) xs vs := h.le .app
theorem REs.le {P : Params} {as bs : List Addr} {xs : List (Str × AV)} {vs : List DictEntry} (q : Le as bs) (h : REs P as xs vs) : REs P bs xs vs := by
  induction h with
  | nil => exact .nil
  | cons h _ ih => obtain ⟨t, v, e, r⟩ := h; exact .cons ⟨t, v, e, r.le q⟩ ih
theorem RO.le {P : Params} {as bs : List Addr} {x : AO} {o : Obj} (q : Le as bs) (h : RO P as x o) : RO P bs x o := by
  cases x with
  | list xs => obtain ⟨vs, n, d, r⟩ := h; exact ⟨vs, n, d, r.le q⟩
  | il xs => exact h
  | tup xs => obtain ⟨vs, n, d, r⟩ := h; exact ⟨vs, n, d, r.le q⟩
  | dict es => obtain ⟨l, n, e, r, k⟩ := h; exact ⟨l, n, e, r.le q, k⟩
  | inst C d => obtain ⟨a, e, r⟩ := h; exact ⟨a, q _ _ e, r⟩
  | attrs es => obtain ⟨l, n, e, r, k⟩ := h; exact ⟨l, n, e, r.le q, k⟩
  | meth f x => obtain ⟨v, r, e⟩ := h; exact ⟨v, r.le q, e⟩
  | cell v =>
    obtain ⟨u, e, r⟩ := h
    refine ⟨u, e, ?_⟩
    cases v <;> cases u <;> first | exact r.le q | exact r
  | rng a b c => exact h
  | junk => trivial
theorem RO.up {P : Params} {as bs : List Addr} {x : AO} {o : Obj} (h : RO P as x o) : RO P (as ++ bs) x o := h.le .app

/-! frames -/
structure Fx where
  cs : Scope
  fn : Bool
structure Cx where
  w : World
  A : Around
  h₀ : Heap
  L : Addr
  env : Env
  rest : List (Addr × Obj)
  comp : Option ((Str → Option Value) × (Str → Option Value))
  outer : List Env
  gens : Array GenState
  os : OsState
noncomputable def Cx.lm (c : Cx) (m : Str → Option Value) : Str → Option Value := match c.comp with
  | none => m
  | some p => p.2

structure At (c : Cx) (as : List Addr) (os : List Obj) (m : Str → Option Value) (σ : S) (s : Shared) : Prop where
  gens : s.gens = c.gens
  os_ : s.os = c.os
  fr : Fr c.h₀ c.L s.heap m
  news : News c.h₀ c.L s.heap (as.zip os ++ c.rest)
  len : os.length = as.length
  len' : σ.objs.length = as.length
  nodup : (as ++ c.rest.map (·.1)).Nodup
  objs : ∀ (i : Nat) ao o, σ.objs[i]? = some ao → os[i]? = some o → RO c.w.params as ao o
  locs : ∀ (x : Str) av, (x, some av) ∈ σ.locs → ∃ v, c.lm m x = some v ∧ RV as av v
  keys : (σ.locs.map (·.1)).Nodup
  cells : ∀ (x : Str) (i : Nat), (x, i) ∈ σ.cells → ∃ a, c.env.cells.lookup x = some a ∧ as[i]? = some a
  comp : ∀ p, c.comp = some p → m = p.1

structure Ok (K : Params → Frag) (f : Fx) (d : Nat) (c : Cx) : Prop where
  scope : c.env.scope = f.cs
  globals : c.env.globals = mainGlobals
  builtins : c.env.builtins = builtinsNs
  kin : (K c.w.params).In c.h₀
  top : ∃ p loose mean mg mb, Top p loose mean mg mb c.h₀
  kind : f.cs.kind = .function
  depth : c.A.depth + d < recursionLimit
  units : c.A.units + 8 * d + 8 < cLine
  handled : c.A.handled = none
  fn : f.fn = true → c.comp = none ∧ c.env.locals = c.L ∧ c.env.frame = some c.L ∧ (∃ A₀ base, Below A₀ base c.outer c.h₀) ∧ c.A.frames = some (c.env :: c.outer)
  cmp : f.fn = false → ∃ C oC m₀ m₂, c.comp = some (m₀, m₂) ∧ c.env.locals = C ∧ (C, oC) ∈ c.rest ∧ LCg.NsObj oC m₂

section
variable {c : Cx} {as : List Addr} {os : List Obj} {m : Str → Option Value} {σ : S} {s : Shared}
theorem zip_mem {as : List Addr} {os : List Obj} {i : Nat} {a : Addr} {o : Obj} (h1 : as[i]? = some a) (h2 : os[i]? = some o) : (a, o) ∈ as.zip os :=
  List.mem_of_getElem? (i := i) (by rw [List.getElem?_zip_eq_some]; exact ⟨h1, h2⟩)
theorem At.obj (R : At c as os m σ s) {i : Nat} {ao : AO} (h : σ.objs[i]? = some ao) :
    ∃ a o, as[i]? = some a ∧ os[i]? = some o ∧ (a, o) ∈ as.zip os ++ c.rest ∧ s.heap.get? a = some o ∧ RO c.w.params as ao o := by
  have hi := (List.getElem?_eq_some_iff.mp h).1
  have h1 : i < as.length := by rw [← R.len']; exact hi
  have h2 : i < os.length := by rw [R.len]; exact h1
  have e1 : as[i]? = some as[i] := List.getElem?_eq_getElem h1
  have e2 : os[i]? = some os[i] := List.getElem?_eq_getElem h2
  have mem : (as[i], os[i]) ∈ as.zip os ++ c.rest := List.mem_append_left _ (zip_mem e1 e2)
  exact ⟨_, _, e1, e2, mem, (R.news _ mem).1, R.objs i ao _ h e2⟩
/-- the heap has grown beside what is told -/
theorem At.move {s' : Shared} {m' : Str → Option Value} (R : At c as os m σ s) (hg : s'.gens = s.gens) (ho : s'.os = s.os) (F : Fr c.h₀ c.L s'.heap m') (N : News c.h₀ c.L s'.heap (as.zip os ++ c.rest))
    (hl : ∀ (x : Str) av, (x, some av) ∈ σ.locs → c.lm m' x = c.lm m x) (hc : c.comp ≠ none → m' = m) : At c as os m' σ s' :=
  { gens := hg.trans R.gens, os_ := ho.trans R.os_, fr := F, news := N, len := R.len, len' := R.len', nodup := R.nodup, objs := R.objs, locs := fun x av h => by rw [hl x av h]; exact R.locs x av h, keys := R.keys, cells := R.cells,
    comp := fun p e => by rw [hc (by rw [e]; exact fun h => nomatch h)]; exact R.comp p e }
theorem At.toks (R : At c as os m σ s) (t : Nat) : At c as os m σ { s with toks := t } :=
  R.move rfl rfl R.fr R.news (fun _ _ _ => rfl) fun _ => rfl
theorem not_mem_of_fresh {as : List Addr} {os : List Obj} {rest : List (Addr × Obj)} {h₀ h : Heap} {L a : Addr} (N : News h₀ L h (as.zip os ++ rest)) (len : os.length = as.length) (hf : h.get? a = none) : a ∉ as ++ rest.map (·.1) := fun q => by
  rcases List.mem_append.mp q with q | q
  · obtain ⟨i, hi, e⟩ := List.getElem_of_mem q
    have h2 : i < os.length := by rw [len]; exact hi
    have mem := zip_mem (as := as) (os := os) (List.getElem?_eq_getElem hi) (List.getElem?_eq_getElem h2)
    have := (N _ (List.mem_append_left _ mem)).1
    dsimp only at this
    rw [e, hf] at this
    cases this
  · obtain ⟨p, hp, rfl⟩ := List.mem_map.mp q
    have := (N _ (List.mem_append_right _ hp)).1
    rw [hf] at this
    cases this
theorem not_mem_of_lt {as : List Addr} {os : List Obj} {rest : List (Addr × Obj)} {a : Addr} (len : os.length = as.length) (hf : ∀ p ∈ as.zip os ++ rest, p.1 < a) : a ∉ as ++ rest.map (·.1) := fun q => by
  rcases List.mem_append.mp q with q | q
  · obtain ⟨i, hi, e⟩ := List.getElem_of_mem q
    have h2 : i < os.length := by rw [len]; exact hi
    have mem := zip_mem (as := as) (os := os) (List.getElem?_eq_getElem hi) (List.getElem?_eq_getElem h2)
    have := hf _ (List.mem_append_left _ mem)
    dsimp only at this
    rw [e] at this
    exact Nat.lt_irrefl _ this
  · obtain ⟨p, hp, rfl⟩ := List.mem_map.mp q
    exact Nat.lt_irrefl _ (hf _ (List.mem_append_right _ hp))
/-- a new object, told -/
theorem At.new {s' : Shared} {a : Addr} {o : Obj} {ao : AO} (R : At c as os m σ s) (hg : s'.gens = s.gens) (ho : s'.os = s.os) (F : Fr c.h₀ c.L s'.heap m) (N : News c.h₀ c.L s'.heap ((a, o) :: (as.zip os ++ c.rest))) (hf : a ∉ as ++ c.rest.map (·.1))
    (r : RO c.w.params (as ++ [a]) ao o) : At c (as ++ [a]) (os ++ [o]) m { σ with objs := σ.objs ++ [ao] } s' where
  gens := hg.trans R.gens
  os_ := ho.trans R.os_
  fr := F
  news := by
    rw [List.zip_append R.len.symm]
    intro p hp
    rcases List.mem_append.mp hp with h | h
    · rcases List.mem_append.mp h with h | h
      · exact N p (.tail _ (List.mem_append_left _ h))
      · exact N p (by cases h with | head => exact .head _ | tail _ h => cases h)
    · exact N p (.tail _ (List.mem_append_right _ h))
  len := by simp [R.len]
  len' := by simp [R.len']
  nodup := by
    rw [List.append_assoc]
    generalize hb : c.rest.map (·.1) = bs
    have hf' : a ∉ as ++ bs := hb ▸ hf
    have nd := R.nodup
    rw [hb] at nd
    exact (List.perm_append_comm_assoc as [a] bs).nodup_iff.mpr (List.nodup_cons.mpr ⟨hf', nd⟩)
  objs := fun i x y h1 h2 => by
    by_cases hi : i < σ.objs.length
    · rw [List.getElem?_append_left hi] at h1
      have : i < os.length := by rw [R.len, ← R.len']; exact hi
      rw [List.getElem?_append_left this] at h2
      exact (R.objs i x y h1 h2).up
    · have e : σ.objs.length = os.length := by rw [R.len, R.len']
      rw [List.getElem?_append_right (by omega)] at h1
      rw [List.getElem?_append_right (by omega)] at h2
      rw [← e] at h2
      cases q : i - σ.objs.length with
      | zero => rw [q] at h1 h2; cases h1; cases h2; exact r
      | succ k => rw [q] at h1; simp at h1
  locs := fun x av h => let ⟨v, h1, h2⟩ := R.locs x av h; ⟨v, h1, h2.up⟩
  keys := R.keys
  cells := fun x i h => let ⟨a, h1, h2⟩ := R.cells x i h; ⟨a, h1, getElem?_app h2⟩
  comp := R.comp
theorem zip_split : ∀ {as : List Addr} {os : List Obj} {i : Nat} {a : Addr} {o : Obj} (o' : Obj), as[i]? = some a → os[i]? = some o → as.Nodup →
    ∃ pre post, as.zip os = pre ++ (a, o) :: post ∧ as.zip (os.set i o') = pre ++ (a, o') :: post ∧ (∀ p ∈ pre, p.1 ≠ a) ∧ ∀ p ∈ post, p.1 ≠ a
  | [], _, _, _, _, _, h, _, _ => by simp at h
  | _ :: _, [], _, _, _, _, _, h, _ => by simp at h
  | b :: as, x :: os, 0, a, o, o', h1, h2, nd => by
    simp at h1 h2
    subst h1 h2
    refine ⟨[], as.zip os, rfl, rfl, fun _ h => (nomatch h), fun p hp e => ?_⟩
    obtain ⟨p1, p2⟩ := p
    exact (List.nodup_cons.mp nd).1 (e ▸ (List.of_mem_zip hp).1)
  | b :: as, x :: os, i + 1, a, o, o', h1, h2, nd => by
    simp only [List.getElem?_cons_succ] at h1 h2
    obtain ⟨pre, post, e1, e2, d1, d2⟩ := zip_split o' h1 h2 (List.nodup_cons.mp nd).2
    refine ⟨(b, x) :: pre, post, by simp [e1], by simp [e2], fun p hp => ?_, d2⟩
    rcases List.mem_cons.mp hp with rfl | hp
    · exact fun (e : b = a) => (List.nodup_cons.mp nd).1 (by rw [e]; exact List.mem_of_getElem? h1)
    · exact d1 p hp
theorem upd_zip {as : List Addr} {os : List Obj} {rest : List (Addr × Obj)} {i : Nat} {a : Addr} {o : Obj} (o' : Obj) (h1 : as[i]? = some a) (h2 : os[i]? = some o) (nd : (as ++ rest.map (·.1)).Nodup) : Upd a o o' (as.zip os ++ rest) (as.zip (os.set i o') ++ rest) := by
  have nd' := List.nodup_append.mp nd
  obtain ⟨pre, post, e1, e2, d1, d2⟩ := zip_split o' h1 h2 nd'.1
  have d3 : ∀ p ∈ post ++ rest, p.1 ≠ a := fun p hp => by
    rcases List.mem_append.mp hp with hp | hp
    · exact d2 p hp
    · exact fun e => nd'.2.2 a (List.mem_of_getElem? h1) p.1 (List.mem_map_of_mem (f := (·.1)) hp) e.symm
  rw [e1, e2]
  clear e1 e2
  induction pre with
  | nil => exact .head d3
  | cons p pre ih => exact .tail (d1 p (.head _)) (ih fun q hq => d1 q (.tail _ hq))
/-- a told object has changed -/
theorem At.upd {s' : Shared} {i : Nat} {o' : Obj} {ao' : AO} (R : At c as os m σ s) (hg : s'.gens = s.gens) (ho : s'.os = s.os) (F : Fr c.h₀ c.L s'.heap m) (N : News c.h₀ c.L s'.heap (as.zip (os.set i o') ++ c.rest))
    (r : RO c.w.params as ao' o') : At c as (os.set i o') m { σ with objs := σ.objs.set i ao' } s' where
  gens := hg.trans R.gens
  os_ := ho.trans R.os_
  fr := F
  news := N
  len := by simp [R.len]
  len' := by simp [R.len']
  nodup := R.nodup
  objs := fun j x y h1 h2 => by
    by_cases e : i = j
    · subst e
      rw [List.getElem?_set] at h1 h2
      simp only [if_true] at h1 h2
      split at h1 <;> split at h2 <;> first | (cases h1; cases h2; exact r) | (cases h1; done) | (cases h2; done)
    · rw [List.getElem?_set_ne e] at h1 h2
      exact R.objs j x y h1 h2
  locs := R.locs
  keys := R.keys
  cells := R.cells
  comp := R.comp
end

/-! triples -/
inductive Out where
  | next | brk | cont
  | ret (v : AV)
noncomputable def ROut (as : List Addr) : Out → Flow → Prop
  | .next, f => f = .next
  | .brk, f => f = .brk
  | .cont, f => f = .cont
  | .ret x, f => ∃ v, f = .ret v ∧ RV as x v
section
variable (prog : Program) (K : Params → Frag)
/-- the tree t, run in the frame c from σ, ends with a value that x tells, in σ' -/
noncomputable def Does (c : Cx) (t : Sem Value) (σ : S) (x : AV) (σ' : S) : Prop :=
  ∀ as os m s (Q : Value → Shared → Prop) (E : Value → Shared → Prop), At c as os m σ s →
    (∀ bs os' m' v s', RV (as ++ bs) x v → At c (as ++ bs) os' m' σ' s' → Q v s') → wpAny (model prog c.w) c.A t Q E s
noncomputable def DoesF (c : Cx) (t : Sem Flow) (σ : S) (x : Out) (σ' : S) : Prop :=
  ∀ as os m s (Q : Flow → Shared → Prop) (E : Value → Shared → Prop), At c as os m σ s →
    (∀ bs os' m' v s', ROut (as ++ bs) x v → At c (as ++ bs) os' m' σ' s' → Q v s') → wpAny (model prog c.w) c.A t Q E s
noncomputable def DoesB (c : Cx) (t : Sem Bool) (σ : S) (x : Bool) (σ' : S) : Prop :=
  ∀ as os m s (Q : Bool → Shared → Prop) (E : Value → Shared → Prop), At c as os m σ s →
    (∀ bs os' m' s', At c (as ++ bs) os' m' σ' s' → Q x s') → wpAny (model prog c.w) c.A t Q E s
noncomputable def DoesVs (c : Cx) (t : Sem (List Value)) (σ : S) (xs : List AV) (σ' : S) : Prop :=
  ∀ as os m s (Q : List Value → Shared → Prop) (E : Value → Shared → Prop), At c as os m σ s →
    (∀ bs os' m' vs s', RVs (as ++ bs) xs vs → At c (as ++ bs) os' m' σ' s' → Q vs s') → wpAny (model prog c.w) c.A t Q E s
noncomputable def EvE (f : Fx) (d : Nat) (e : Expr) (σ : S) (x : AV) (σ' : S) : Prop := ∀ c : Cx, Ok K f d c → Does prog c (eval e c.env) σ x σ'
noncomputable def EvS (f : Fx) (d : Nat) (st : Stmt) (σ : S) (x : Out) (σ' : S) : Prop := ∀ c : Cx, Ok K f d c → DoesF prog c (exec st c.env) σ x σ'
noncomputable def EvB (f : Fx) (d : Nat) (b : List Stmt) (σ : S) (x : Out) (σ' : S) : Prop := ∀ c : Cx, Ok K f d c → DoesF prog c (execs b c.env) σ x σ'
noncomputable def EvT (f : Fx) (d : Nat) (e : Expr) (σ : S) (b : Bool) (σ' : S) : Prop := ∀ c : Cx, Ok K f d c → DoesB prog c (PySem.isTrue e c.env (eval e c.env)) σ b σ'
/-- a call of the function at fa, from any frame -/
noncomputable def CallT (d : Nat) (fa : Addr) (args : List AV) (objs : List AO) (x : AV) (objs' : List AO) : Prop :=
  ∀ (f : Fx) (c : Cx) (σ : S), f.fn = true → Ok K f (d + 1) c → σ.objs = objs → ∀ as os m s (vs : List Value) (Q : Value → Shared → Prop) (E : Value → Shared → Prop), At c as os m σ s → RVs as args vs →
    (∀ bs os' m' v s', RV (as ++ bs) x v → At c (as ++ bs) os' m' { σ with objs := objs' } s' → Q v s') →
      codeAny (model prog c.w) c.A (.call (.ref fa) ⟨vs, []⟩) (fun r s' => match r with | .ok (.ret v) => Q v s' | .ok _ => False | .error e => E e s') s
/-- the arguments of a call, the items of a display -/
noncomputable def EvA (f : Fx) (d : Nat) (es : List Expr) (σ : S) (xs : List AV) (σ' : S) : Prop := ∀ (c : Cx) (pos : Pos), Ok K f d c → DoesVs prog c (spliced (backTo pos (starEach es c.env))) σ xs σ'
end
theorem RV.mkint {as : List Addr} {i : Int} {t : Tok} : RV as (.int i) (.int i t) := ⟨t, rfl⟩
theorem app_nil {as : List Addr} : as ++ [] = as := List.append_nil as
theorem Ok.weak {K : Params → Frag} {f : Fx} {d e : Nat} {c : Cx} (h : Ok K f d c) (le : e ≤ d) : Ok K f e c :=
  { h with depth := by have := h.depth; omega, units := by have := h.units; omega }
end Mine
/-! text M2 -/
open PySem PySem.W PyProof.Rows PySem.Spec PySem.Calls
set_option Elab.async false
set_option maxRecDepth 100000
namespace Mine
noncomputable def look {α : Type} (x : Str) : List (Str × α) → Option α
  | [] => none
  | (y, v) :: r => match Fast.sEq y x with
    | true => some v
    | false => look x r
theorem look_mem {α : Type} {x : Str} {v : α} : ∀ {l : List (Str × α)}, look x l = some v → (x, v) ∈ l
  | [], h => by cases h
  | (y, u) :: r, h => by
    unfold look at h
    cases e : Fast.sEq y x with
    | true => rw [e] at h; have := Fast.sEq_iff.mp e; subst this; cases h; exact .head _
    | false => rw [e] at h; exact .tail _ (look_mem h)
theorem sEq_false {x y : Str} (h : Fast.sEq x y = false) : (x == y) = false := by
  rw [beq_eq_false_iff_ne]; intro e; rw [Fast.sEq_iff.mpr e] at h; cases h
theorem look_lookup {α : Type} {x : Str} : ∀ {l : List (Str × α)}, look x l = l.lookup x
  | [] => rfl
  | (y, u) :: r => by
    unfold look
    rw [List.lookup_cons]
    cases e : Fast.sEq y x with
    | true => have := Fast.sEq_iff.mp e; subst this; simp
    | false =>
      have : (x == y) = false := by
        rw [beq_eq_false_iff_ne]; intro q; subst q; rw [Fast.sEq_iff.mpr rfl] at e; cases e
      rw [this]
      exact look_lookup
noncomputable def setLoc (x : Str) (v : AV) : List (Str × Option AV) → Option (List (Str × Option AV))
  | [] => none
  | (y, u) :: r => match Fast.sEq y x with
    | true => some ((y, some v) :: r)
    | false => match setLoc x v r with
      | some r' => some ((y, u) :: r')
      | none => none
theorem setLoc_cons {x y : Str} {v : AV} {u : Option AV} {r l' : List (Str × Option AV)} (h : setLoc x v ((y, u) :: r) = some l') : (y = x ∧ l' = (y, some v) :: r) ∨ (y ≠ x ∧ ∃ r', setLoc x v r = some r' ∧ l' = (y, u) :: r') := by
  unfold setLoc at h
  cases e : Fast.sEq y x with
  | true => rw [e] at h; cases h; exact .inl ⟨Fast.sEq_iff.mp e, rfl⟩
  | false =>
    rw [e] at h
    refine .inr ⟨fun q => (by rw [Fast.sEq_iff.mpr q] at e; cases e), ?_⟩
    cases q : setLoc x v r with
    | none => rw [q] at h; first | exact no_ h | cases h
    | some r' => rw [q] at h; cases h; exact ⟨r', rfl, rfl⟩
theorem setLoc_keys {x : Str} {v : AV} : ∀ {l l' : List (Str × Option AV)}, setLoc x v l = some l' → l'.map (·.1) = l.map (·.1)
  | [], _, h => by cases h
  | (y, u) :: r, l', h => by
    rcases setLoc_cons h with ⟨_, rfl⟩ | ⟨_, r', h1, rfl⟩
    · rfl
    · simp [setLoc_keys h1]
theorem setLoc_mem {x : Str} {v : AV} : ∀ {l l' : List (Str × Option AV)}, setLoc x v l = some l' → (l.map (·.1)).Nodup → ∀ y u, (y, u) ∈ l' → (y = x ∧ u = some v) ∨ (y ≠ x ∧ (y, u) ∈ l)
  | [], _, h, _, _, _, _ => by cases h
  | (z, w) :: r, l', h, nd, y, u, hm => by
    have nd' := List.nodup_cons.mp (show (z :: r.map (·.1)).Nodup from nd)
    rcases setLoc_cons h with ⟨e, rfl⟩ | ⟨ne, r', h1, rfl⟩
    · subst e
      rcases List.mem_cons.mp hm with q | q
      · cases q; exact .inl ⟨rfl, rfl⟩
      · refine .inr ⟨fun q' => nd'.1 ?_, .tail _ q⟩
        subst q'
        exact List.mem_map_of_mem (f := (·.1)) q
    · rcases List.mem_cons.mp hm with q | q
      · cases q
        exact .inr ⟨ne, .head _⟩
      · rcases setLoc_mem h1 nd'.2 y u q with q | q
        · exact .inl q
        · exact .inr ⟨q.1, .tail _ q.2⟩
noncomputable def nd (x : Str) : Bool := match Fast.sEq x "__debug__" with
  | true => false
  | false => match Fast.sEq x "__classdict__" with
    | true => false
    | false => match Fast.sEq x "__name__" with
      | true => false
      | false => true
theorem nd_of {x : Str} (h : nd x = true) : (x == ("__debug__" : Str)) = false ∧ (x == ("__classdict__" : Str)) = false ∧ x ≠ "__name__" := by
  unfold nd at h
  cases e : Fast.sEq x "__debug__" with
  | true => rw [e] at h; first | exact no_ h | cases h
  | false =>
    cases e2 : Fast.sEq x "__classdict__" with
    | true => rw [e, e2] at h; cases h
    | false =>
      cases e3 : Fast.sEq x "__name__" with
      | true => rw [e, e2, e3] at h; cases h
      | false => exact ⟨sEq_false e, sEq_false e2, fun q => by rw [Fast.sEq_iff.mpr q] at e3; cases e3⟩
section
variable {prog : Program} {K : Params → Frag} {f : Fx} {d : Nat} {σ σ₁ σ₂ σ₃ : S} {c : Cx} {as : List Addr} {os : List Obj} {m : Str → Option Value} {s : Shared}
theorem Ok.kindOf (ok : Ok K f d c) {x : Str} {k : NameKind} (h : look x f.cs.names = some k) : c.env.kindOf x = some k := by
  show c.env.scope.names.lookup x = some k
  rw [ok.scope, ← look_lookup]; exact h
theorem Ok.kind' (ok : Ok K f d c) : c.env.scope.kind = .function := by rw [ok.scope]; exact ok.kind
theorem Ok.ns (ok : Ok K f d c) (R : At c as os m σ s) : s.heap.Ns c.env.locals (c.lm m) := by
  cases e : f.fn with
  | true =>
    obtain ⟨h1, h2, _⟩ := ok.fn e
    rw [h2]
    unfold Cx.lm
    rw [h1]
    exact R.fr.ns
  | false =>
    obtain ⟨C, oC, m₀, m₂, h1, h2, h3, h4⟩ := ok.cmp e
    rw [h2]
    unfold Cx.lm
    rw [h1]
    exact h4.ns (R.news _ (List.mem_append_right _ h3)).1
theorem EvE.cint {i : Int} {k : Nat} {pos : Pos} : EvE prog K f d (.Constant (.int i) k pos) σ (.cint i) σ := by
  intro c ok as os m s Q E R h
  refine wpAny_Constant_int (h [] os m _ _ ?_ ?_)
  · exact ⟨_, rfl⟩
  · rw [app_nil]; exact R.toks _
theorem EvE.cnone {k : Nat} {pos : Pos} : EvE prog K f d (.Constant .none k pos) σ (.val .none) σ := by
  intro c ok as os m s Q E R h
  exact wpAny_Constant_none (h [] os m _ _ rfl (by rw [app_nil]; exact R))
theorem EvE.loc {x : Str} {pos : Pos} {av : AV} (hl : look x σ.locs = some (some av)) (hk : look x f.cs.names = some .local) (hd : nd x = true) : EvE prog K f d (.Name x pos) σ av σ := by
  intro c ok as os m s Q E R h
  obtain ⟨v, hv, r⟩ := R.locs x av (look_mem hl)
  refine wpAny_Name (wpAny_loadName_local ok.kind' (ok.kindOf hk) (ok.ns R) hv (h [] os m v s ?_ ?_)) (nd_of hd).1
  · rw [app_nil]; exact r
  · rw [app_nil]; exact R
theorem EvE.cellN {x : Str} {pos : Pos} {av : AV} {i : Nat} {k : NameKind} (hl : look x σ.cells = some i) (ho : σ.objs[i]? = some (.cell (some av))) (hk : look x f.cs.names = some k) (hk' : k = .cell ∨ k = .free) (hd : nd x = true) : EvE prog K f d (.Name x pos) σ av σ := by
  intro c ok as os m s Q E R h
  obtain ⟨a, h1, h2⟩ := R.cells x i (look_mem hl)
  obtain ⟨a', o, g1, _, _, g2, u, g3, g4⟩ := R.obj ho
  rw [h2] at g1; cases g1
  cases u with
  | none => exact g4.elim
  | some y =>
    have key : Q y s := h [] os m y s (by rw [app_nil]; exact g4) (by rw [app_nil]; exact R)
    rcases hk' with rfl | rfl
    · exact wpAny_Name (wpAny_loadName_cell ok.kind' (ok.kindOf hk) h1 ⟨o, g2, g3⟩ key) (nd_of hd).1
    · exact wpAny_Name (wpAny_loadName_free ok.kind' (ok.kindOf hk) h1 ⟨o, g2, g3⟩ key (nd_of hd).2.1) (nd_of hd).1
theorem EvE.glob {x : Str} {pos : Pos} {v : Value} (hg : ∀ P, nsIn (K P) mainGlobals x = some (some v)) (hk : look x f.cs.names = some .globalImplicit) (hd : nd x = true) : EvE prog K f d (.Name x pos) σ (.val v) σ := by
  intro c ok as os m s Q E R h
  obtain ⟨p, loose, mean, mg, mb, T⟩ := ok.top
  refine Name_function_global ok.kind' (ok.kindOf hk) (loadGlobal_global (by rw [ok.globals]; exact T.g.keeps R.fr.keep) (mg_of ok.kin T.g (hg _)) (h [] os m v s rfl (by rw [app_nil]; exact R))) (nd_of hd).1
theorem EvE.built {x : Str} {pos : Pos} {v : Blt} (hg : ∀ P, nsIn (K P) mainGlobals x = some none) (hv : bootBuiltins x = some v.value) (hk : look x f.cs.names = some .globalImplicit) (hd : nd x = true) : EvE prog K f d (.Name x pos) σ (.blt v) σ := by
  intro c ok as os m s Q E R h
  obtain ⟨p, loose, mean, mg, mb, T⟩ := ok.top
  refine Name_function_global ok.kind' (ok.kindOf hk) (loadGlobal_builtin (by rw [ok.globals]; exact T.g.keeps R.fr.keep) (mg_none_of ok.kin T.g (hg _)) (by rw [ok.builtins]; exact T.b.keeps R.fr.keep) ((T.builtins x (nd_of hd).2.2).trans hv) (h [] os m v.value s rfl (by rw [app_nil]; exact R))) (nd_of hd).1

/-! stores of names -/
theorem store_local {x : Str} {av : AV} {v : Value} {l : List (Str × Option AV)} {Q : Unit → Shared → Prop} {E : Value → Shared → Prop} (hf : f.fn = true) (ok : Ok K f d c) (R : At c as os m σ s) (r : RV as av v)
    (e : setLoc x av σ.locs = some l) (hk : look x f.cs.names = some .local) (h : ∀ m' s', At c as os m' { σ with locs := l } s' → Q () s') : wpAny (model prog c.w) c.A (storeName c.env x v) Q E s := by
  obtain ⟨h1, h2, _⟩ := ok.fn hf
  refine wpAny_storeName_local (m := m) (ok.kindOf hk) (by rw [h2]; exact R.fr.ns) (fun h' hn hs => ?_) (by rw [ok.kind']; rfl)
  rw [h2] at hn hs
  refine h (fun y => if y = x then some v else m y) _ ?_
  have lm : ∀ m' : Str → Option Value, c.lm m' = m' := fun m' => by unfold Cx.lm; rw [h1]
  exact
  { gens := R.gens, os_ := R.os_, fr := R.fr.set hn hs, news := R.news.set hs, len := R.len, len' := R.len', nodup := R.nodup, objs := R.objs
    locs := fun y u h => by
      rw [lm]
      rcases setLoc_mem e R.keys y (some u) h with ⟨rfl, q⟩ | ⟨q, h'⟩
      · cases q; exact ⟨v, if_pos rfl, r⟩
      · obtain ⟨v', g1, g2⟩ := R.locs y u h'
        rw [lm] at g1
        exact ⟨v', by rw [if_neg q]; exact g1, g2⟩
    keys := by rw [setLoc_keys e]; exact R.keys
    cells := R.cells
    comp := fun p e => by rw [h1] at e; cases e }
theorem store_cell {x : Str} {av : AV} {v : Value} {i : Nat} {u : Option AV} {Q : Unit → Shared → Prop} {E : Value → Shared → Prop} (ok : Ok K f d c) (R : At c as os m σ s) (r : RV as av v)
    (hl : look x σ.cells = some i) (ho : σ.objs[i]? = some (.cell u)) (hk : look x f.cs.names = some .cell) (h : ∀ os' s', At c as os' m { σ with objs := σ.objs.set i (.cell (some av)) } s' → Q () s') : wpAny (model prog c.w) c.A (storeName c.env x v) Q E s := by
  obtain ⟨a, h1, h2⟩ := R.cells x i (look_mem hl)
  obtain ⟨a', o, g1, g1', gm, g2, w, g3, _⟩ := R.obj ho
  rw [h2] at g1; cases g1
  have U := fun o' => upd_zip (as := as) (os := os) (rest := c.rest) (i := i) (a := a) (o := o) o' h2 g1' R.nodup
  refine wpAny_storeName_cell ok.kind' (ok.kindOf hk) h1 ⟨o, g2, g3⟩ fun h' hv hs => ?_
  obtain ⟨o', ho', hd'⟩ := hv
  obtain ⟨pre, post, e1, e2, d1, d2⟩ := (U o').split
  have N := R.news
  have hmem := N _ gm
  rw [e1] at N
  refine h (os.set i o') _ (R.upd rfl rfl ⟨R.fr.ns.sameBut hs (Ne.symm hmem.2.1), fun b ob e => (hs.2 b (fun q => ?_)).trans (R.fr.keep b ob e), R.fr.above⟩ (by rw [e2]; exact N.setAt d1 d2 hs ho') ⟨_, hd', r⟩)
  rw [q, hmem.2.2] at e; cases e
end
end Mine
/-! text M3 -/
open PySem PySem.W PyProof.Rows PySem.Spec PySem.Calls
set_option Elab.async false
set_option maxRecDepth 100000
namespace Mine
noncomputable def setA (x : Str) (v : AV) : List (Str × AV) → List (Str × AV)
  | [] => [(x, v)]
  | (y, u) :: r => match Fast.sEq y x with
    | true => (y, v) :: r
    | false => (y, u) :: setA x v r
noncomputable def hand : AV → Bool
  | .val u => handedIn u
  | .blt _ => false
  | .top => false
  | _ => true
theorem hand_of {as : List Addr} {x : AV} {v : Value} (h : hand x = true) (r : RV as x v) : handedIn v = true := by
  cases x with
  | cint i => obtain ⟨t, rfl⟩ := r; rfl
  | int i => obtain ⟨t, rfl⟩ := r; rfl
  | any => obtain ⟨i, t, rfl⟩ := r; rfl
  | str i => obtain ⟨t, rfl⟩ := r; rfl
  | cb b => obtain rfl : v = .bool b := r; rfl
  | bool b => obtain rfl : v = .bool b := r; rfl
  | obj i => obtain ⟨t, _, rfl⟩ := r; rfl
  | val u => obtain rfl : v = u := r; exact h
  | blt b => cases h
  | top => first | exact no_ h | cases h
theorem isStr_str (x y : Str) (t : Tok) : (Value.str x t).isStr y = (x == y) := rfl
theorem look_some {P : Params} {as : List Addr} {x : Str} {av : AV} : ∀ {es : List (Str × AV)} {l : List DictEntry}, REs P as es l → look x es = some av → ∃ e t v, l.find? (·.key.isStr x) = some e ∧ e = ⟨PyData.keyHash P x, .str x t, v⟩ ∧ RV as av v
  | _, _, .nil, h => by cases h
  | (y, u) :: r, _, .cons (e := e) (es := l) ⟨t, v, he, rv⟩ rest, h => by
    subst he
    unfold look at h
    cases q : Fast.sEq y x with
    | true =>
      rw [q] at h; first | exact no_ h | cases h
      have := Fast.sEq_iff.mp q; subst this
      exact ⟨_, t, v, by rw [List.find?_cons]; simp [isStr_str], rfl, rv⟩
    | false =>
      rw [q] at h
      obtain ⟨e', t', v', h1, h2⟩ := look_some rest h
      refine ⟨e', t', v', ?_, h2⟩
      rw [List.find?_cons, isStr_str, sEq_false q]; exact h1
theorem look_none {P : Params} {as : List Addr} {x : Str} : ∀ {es : List (Str × AV)} {l : List DictEntry}, REs P as es l → look x es = none → l.find? (·.key.isStr x) = none ∧ l.any (·.refKey) = false
  | _, _, .nil, _ => ⟨rfl, rfl⟩
  | (y, u) :: r, _, .cons (e := e) (es := l) ⟨t, v, he, rv⟩ rest, h => by
    subst he
    unfold look at h
    cases q : Fast.sEq y x with
    | true => rw [q] at h; first | exact no_ h | cases h
    | false =>
      rw [q] at h
      obtain ⟨h1, h2⟩ := look_none rest h
      refine ⟨?_, ?_⟩
      · rw [List.find?_cons, isStr_str, sEq_false q]; exact h1
      · rw [List.any_cons, h2]; rfl
theorem getL_some {P : Params} {as : List Addr} {x : Str} {av : AV} {es : List (Str × AV)} {l : List DictEntry} (r : REs P as es l) (h : look x es = some av) : ∃ v, getL x l = some (some v) ∧ RV as av v := by
  obtain ⟨e, t, v, h1, h2, h3⟩ := look_some r h
  subst h2
  exact ⟨v, by unfold getL; rw [h1], h3⟩
theorem getL_none {P : Params} {as : List Addr} {x : Str} {es : List (Str × AV)} {l : List DictEntry} (r : REs P as es l) (h : look x es = none) : getL x l = some none := by
  obtain ⟨h1, h2⟩ := look_none r h
  unfold getL; rw [h1, h2]; rfl
theorem putL_of {P : Params} {as : List Addr} {x : Str} {av : AV} {v : Value} {t : Tok} (rv : RV as av v) : ∀ {es : List (Str × AV)} {l : List DictEntry}, REs P as es l → REs P as (setA x av es) (putL x (PyData.keyHash P x) (.str x t) v l)
  | _, _, .nil => .cons ⟨t, v, rfl, rv⟩ .nil
  | (y, u) :: r, _, .cons (e := e) (es := l) ⟨t', v', he, rv'⟩ rest => by
    subst he
    unfold setA putL
    dsimp only
    rw [isStr_str]
    cases q : Fast.sEq y x with
    | true =>
      have := Fast.sEq_iff.mp q; subst this
      rw [if_pos (by simp)]
      exact .cons ⟨t', v, rfl, rv⟩ rest
    | false =>
      rw [sEq_false q]
      exact .cons ⟨t', v', rfl, rv'⟩ (putL_of rv rest)
theorem setA_keys {x : Str} {v : AV} : ∀ (es : List (Str × AV)), ∀ k ∈ (setA x v es).map (·.1), k = x ∨ k ∈ es.map (·.1)
  | [], k, h => by left; simpa [setA] using h
  | (y, u) :: r, k, h => by
    unfold setA at h
    cases q : Fast.sEq y x with
    | true => rw [q] at h; exact .inr h
    | false =>
      rw [q] at h
      rcases List.mem_cons.mp (show k ∈ y :: (setA x v r).map (·.1) from h) with rfl | h
      · exact .inr (.head _)
      · rcases setA_keys r k h with h | h
        · exact .inl h
        · exact .inr (.tail _ h)
theorem setA_nodup {x : Str} {v : AV} : ∀ (es : List (Str × AV)), (es.map (·.1)).Nodup → ((setA x v es).map (·.1)).Nodup
  | [], _ => by simp [setA]
  | (y, u) :: r, h => by
    have h' := List.nodup_cons.mp (show (y :: r.map (·.1)).Nodup from h)
    unfold setA
    cases q : Fast.sEq y x with
    | true => exact h
    | false =>
      show (y :: (setA x v r).map (·.1)).Nodup
      refine List.nodup_cons.mpr ⟨fun hm => ?_, setA_nodup r h'.2⟩
      rcases setA_keys r y hm with e | hm
      · rw [Fast.sEq_iff.mpr e] at q; cases q
      · exact h'.1 hm
theorem REs.length {P : Params} {as : List Addr} {es : List (Str × AV)} {l : List DictEntry} (h : REs P as es l) : l.length = es.length := by
  induction h with
  | nil => rfl
  | cons _ _ ih => simp [ih]
theorem setA_len {x : Str} {v : AV} : ∀ es : List (Str × AV), (setA x v es).length ≤ es.length + 1
  | [] => by simp [setA]
  | (y, u) :: r => by
    unfold setA
    have := setA_len (x := x) (v := v) r
    cases Fast.sEq y x with
    | true => simp
    | false => simp; omega

noncomputable def ownName (k : Frag) (C : Addr) (x : Str) : Bool := plainGet k C x && hasDictIn k C && (match findIn k (.ref C) x with | some none => true | _ => false)
theorem ownName_of {k : Frag} {C : Addr} {x : Str} (h : ownName k C x = true) : plainGet k C x = true ∧ hasDictIn k C = true ∧ findIn k (.ref C) x = some none := by
  unfold ownName at h
  obtain ⟨h', c3⟩ := Bool.and_eq_true_iff.mp h
  obtain ⟨c1, c2⟩ := Bool.and_eq_true_iff.mp h'
  refine ⟨c1, c2, ?_⟩
  split at c3
  · assumption
  · cases c3
noncomputable def clsName (k : Frag) (C : Addr) (x : Str) (a : Value) : Bool := plainGet k C x && hasDictIn k C && (findIn k (.ref C) x == some (some a)) && (specialIn k a "__get__" == some none) && handedIn a && !copiedNames.contains x
noncomputable def setName (k : Frag) (C : Addr) (x : Str) : Bool := (findIn k (.ref C) "__setattr__" == some (some (.builtin "object.__setattr__"))) && plainOver k C && (match takerIn k C x with | some none => true | _ => false) && hasDictIn k C
noncomputable def methName (k : Frag) (C : Addr) (x : Str) (f : Addr) : Bool := plainGet k C x && hasDictIn k C && (findIn k (.ref C) x == some (some (.ref f))) && isFn k (.ref f) && fnIn k f && (specialIn k (.ref f) "__get__" == some (some (.builtin "function.__get__"))) && (takesIn k (.ref f) == some false) && !copiedNames.contains x
section
variable {prog : Program} {K : Params → Frag} {f : Fx} {d : Nat} {σ σ₁ σ₂ σ₃ : S}
/-- what a frame has of an instance -/
theorem At.inst {c : Cx} {as : List Addr} {os : List Obj} {m : Str → Option Value} {σ : S} {s : Shared} {i j : Nat} {C : Addr} {es : List (Str × AV)} (R : At c as os m σ s) (hi : σ.objs[i]? = some (.inst C j)) (hj : σ.objs[j]? = some (.attrs es)) :
    ∃ x dx l n, as[i]? = some x ∧ as[j]? = some dx ∧ os[j]? = some (dictOf l n) ∧ InstAt s.heap x (instObj C dx) C (some (dictOf l n)) ∧ REs c.w.params as es l ∧ (es.map (·.1)).Nodup := by
  obtain ⟨x, o, h1, h2, _, h4, a, h5, rfl⟩ := R.obj hi
  obtain ⟨dx, od, g1, g2, _, g4', l, n, rfl, g5, g6⟩ := R.obj hj
  have q : a = dx := Option.some.inj (h5.symm.trans g1)
  subst q
  exact ⟨x, a, l, n, h1, g1, g2, ⟨h4, rfl, rfl, g4'⟩, g5, g6⟩
theorem EvE.attr {n : Str} {np pos : Pos} {x : Str} {i j : Nat} {C : Addr} {es : List (Str × AV)} {av : AV} (h : EvE prog K f d (.Name n np) σ (.obj i) σ₁) (hi : σ₁.objs[i]? = some (.inst C j)) (hj : σ₁.objs[j]? = some (.attrs es))
    (hc : ∀ P, ownName (K P) C x = true) (hg : look x es = some av) (hh : hand av = true) : EvE prog K f d (.Attribute (.Name n np) x pos) σ av σ₁ := by
  intro c ok as os m s Q E R hq
  refine Attribute_name (h c ok as os m s _ E R fun bs os₁ m₁ v s₁ rv R₁ => ?_)
  obtain ⟨ax, dx, l, nn, h1, h2, _, I, r, _⟩ := R₁.inst hi hj
  obtain ⟨a, h1', rfl⟩ := rv
  rw [h1] at h1'; cases h1'
  obtain ⟨u, hu, ru⟩ := getL_some r hg
  obtain ⟨c1, c2, c3⟩ := ownName_of (hc c.w.params)
  exact get_own R₁.fr ok.kin I c1 c2 c3 rfl hu (hand_of hh ru) (hq _ _ _ _ _ ru (R₁.toks _))
theorem EvE.clsAttr {n : Str} {np pos : Pos} {x : Str} {i j : Nat} {C : Addr} {es : List (Str × AV)} {av : AV} {a : Value} (h : EvE prog K f d (.Name n np) σ (.obj i) σ₁) (hi : σ₁.objs[i]? = some (.inst C j)) (hj : σ₁.objs[j]? = some (.attrs es))
    (hc : ∀ P, clsName (K P) C x a = true) (hg : look x es = none) (ha : ∀ as, RV as av a) : EvE prog K f d (.Attribute (.Name n np) x pos) σ av σ₁ := by
  intro c ok as os m s Q E R hq
  refine Attribute_name (h c ok as os m s _ E R fun bs os₁ m₁ v s₁ rv R₁ => ?_)
  obtain ⟨ax, dx, l, nn, h1, h2, _, I, r, _⟩ := R₁.inst hi hj
  obtain ⟨a', h1', rfl⟩ := rv
  rw [h1] at h1'; cases h1'
  have hc' := hc c.w.params
  unfold clsName at hc'
  simp only [Bool.and_eq_true, beq_iff_eq, Bool.not_eq_true'] at hc'
  obtain ⟨⟨⟨⟨⟨c1, c2⟩, c3⟩, c4⟩, c5⟩, c6⟩ := hc'
  exact get_cls R₁.fr ok.kin I c1 c2 c3 c4 c5 c6 (getL_none r hg) (hq _ _ _ _ _ (ha _) (R₁.toks _))
theorem store_attr {c : Cx} {x : Str} {av : AV} {v : Value} {as : List Addr} {os : List Obj} {m : Str → Option Value} {s : Shared} {Q : Unit → Shared → Prop} {E : Value → Shared → Prop} {i j : Nat} {C ax : Addr} {es : List (Str × AV)} (ok : Ok K f d c) (R : At c as os m σ s) (r : RV as av v)
    (hi : σ.objs[i]? = some (.inst C j)) (hj : σ.objs[j]? = some (.attrs es)) (ha : as[i]? = some ax) (hc : ∀ P, setName (K P) C x = true) (hz : es.length ≤ 900)
    (h : ∀ os' s', At c as os' m { σ with objs := σ.objs.set j (.attrs (setA x av es)) } s' → Q () s') : wpAny (model prog c.w) c.A (setAttr (.ref ax) x v) Q E s := by
  obtain ⟨ax', dx, l, nn, h1, h2, h3, I, rr, nd⟩ := R.inst hi hj
  rw [ha] at h1; cases h1
  have hc' := hc c.w.params
  unfold setName at hc'
  simp only [Bool.and_eq_true, beq_iff_eq] at hc'
  obtain ⟨⟨⟨c1, c2⟩, c3⟩, c4⟩ := hc'
  have c3' : takerIn (K c.w.params) C x = some none := by
    split at c3
    · assumption
    · cases c3
  have p := putL_of (t := s.toks + 1) r rr (x := x)
  have hl : (getL x l).isSome = true := by
    cases q : look x es with
    | none => rw [getL_none rr q]; rfl
    | some y => obtain ⟨u, e, _⟩ := getL_some rr q; rw [e]; rfl
  have len : (putL x (PyData.keyHash c.w.params x) (.str x (s.toks + 1)) v l).length ≤ 1000 := by
    rw [p.length]
    have : (setA x av es).length ≤ es.length + 1 := by
      exact setA_len es
    omega
  refine set_dict R.fr ok.kin R.news I rfl c1 c2 c3' c4 hl rfl (upd_zip _ h2 h3 R.nodup) len fun h' F' N' => h _ _ (R.upd rfl rfl F' N' ⟨_, _, rfl, p, setA_nodup es nd⟩)
theorem EvS.setAttr {n : Str} {np pos' pos : Pos} {value : Expr} {x : Str} {av : AV} {i j : Nat} {C : Addr} {es : List (Str × AV)} (h : EvE prog K f d value σ av σ₁) (h2 : EvE prog K f d (.Name n np) σ₁ (.obj i) σ₂) (hi : σ₂.objs[i]? = some (.inst C j)) (hj : σ₂.objs[j]? = some (.attrs es))
    (hc : ∀ P, setName (K P) C x = true) (hz : es.length ≤ 900) (hs : ∀ env : Env, swapsWith value (some (.Attribute (.Name n np) x pos')) pos.line env = pure false) :
    EvS prog K f d (.Assign [.Attribute (.Name n np) x pos'] value pos) σ .next { σ₂ with objs := σ₂.objs.set j (.attrs (setA x av es)) } := by
  intro c ok as os m s Q E R hq
  refine plainObj_wpAny_Assign_Attribute (h c ok as os m s _ E R fun bs os₁ m₁ v s₁ rv R₁ => ?_) (hs _)
  refine h2 c ok _ os₁ m₁ s₁ _ E R₁ fun bs₂ os₂ m₂ u s₂ ru R₂ => ?_
  obtain ⟨a, ha, rfl⟩ := ru
  rw [List.append_assoc] at ha R₂
  exact store_attr ok R₂ (by rw [← List.append_assoc]; exact rv.up) hi hj ha hc hz fun os' s' R' => hq _ _ _ _ _ rfl R'
theorem EvS.augAttr {n : Str} {np tpos pos : Pos} {op : Operator} {value : Expr} {x : Str} {old v new : AV} {i j : Nat} {C : Addr} {es es₂ : List (Str × AV)} (h1 : EvE prog K f d (.Name n np) σ (.obj i) σ₁) (hi : σ₁.objs[i]? = some (.inst C j)) (hj : σ₁.objs[j]? = some (.attrs es))
    (hc : ∀ P, ownName (K P) C x = true) (hg : look x es = some old) (hh : hand old = true) (h2 : EvE prog K f d value σ₁ v σ₂)
    (ho : ∀ (w : World) (A : Around) (as : List Addr) (a b : Value) (s : Shared) (Q E : Value → Shared → Prop), RV as old a → RV as v b → (∀ v t, RV as new v → Q v { s with toks := t }) → wpAny (model prog w) A (inplaceOp op a b) Q E s)
    (hi2 : σ₂.objs[i]? = some (.inst C j)) (hj2 : σ₂.objs[j]? = some (.attrs es₂)) (hc2 : ∀ P, setName (K P) C x = true) (hz : es₂.length ≤ 900) :
    EvS prog K f d (.AugAssign (.Attribute (.Name n np) x tpos) op value pos) σ .next { σ₂ with objs := σ₂.objs.set j (.attrs (setA x new es₂)) } := by
  intro c ok as os m s Q E R hq
  refine wpAny_AugAssign_AttributeAny (h1 c ok as os m s _ E R fun bs os₁ m₁ o s₁ ro R₁ => ?_)
  obtain ⟨ax, dx, l, nn, g1, g2, _, I, r, _⟩ := R₁.inst hi hj
  obtain ⟨a, g1', rfl⟩ := ro
  rw [g1] at g1'; cases g1'
  obtain ⟨u, hu, ru⟩ := getL_some r hg
  obtain ⟨c1, c2, c3⟩ := ownName_of (hc c.w.params)
  refine get_own R₁.fr ok.kin I c1 c2 c3 rfl hu (hand_of hh ru) ?_
  refine h2 c ok _ os₁ m₁ _ _ E (R₁.toks _) fun bs₂ os₂ m₂ b s₂ rb R₂ => ?_
  refine ho c.w c.A (as ++ bs ++ bs₂) u b s₂ _ E ru.up rb fun r t rr => ?_
  rw [List.append_assoc] at rr R₂
  refine store_attr ok (R₂.toks t) rr hi2 hj2 (by rw [← List.append_assoc]; exact getElem?_app g1) hc2 hz fun os' s' R' => hq _ _ _ _ _ rfl R'
end
end Mine
/-! text M4 -/
open PySem PySem.W PyProof.Rows PySem.Spec PySem.Calls
set_option Elab.async false
set_option maxRecDepth 100000
namespace Mine
theorem RVs.length {as : List Addr} {xs : List AV} {vs : List Value} (h : RVs as xs vs) : vs.length = xs.length := by
  induction h with
  | nil => rfl
  | cons _ _ ih => simp [ih]
noncomputable def locs0 (xs : List Str) (args : List AV) (rest : List Str) : List (Str × Option AV) := (xs.zip args).map (fun p => (p.1, some p.2)) ++ rest.map (·, none)
theorem locs0_keys {xs rest : List Str} {args : List AV} (h : args.length = xs.length) : (locs0 xs args rest).map (·.1) = xs ++ rest := by
  unfold locs0
  rw [List.map_append, List.map_map, List.map_map]
  congr 1
  · exact List.map_fst_zip (by omega)
  · exact List.map_id rest
theorem zip_rel {as : List Addr} : ∀ {xs : List Str} {args : List AV} {vs : List Value}, RVs as args vs → ∀ x av, (x, av) ∈ xs.zip args → ∃ v, (x, v) ∈ xs.zip vs ∧ RV as av v
  | [], _, _, _, _, _, h => by simp at h
  | _ :: _, _, _, .nil, _, _, h => by simp at h
  | y :: xs, _, _, .cons r rs, x, av, h => by
    rcases List.mem_cons.mp (show (x, av) ∈ _ :: xs.zip _ from h) with e | h
    · cases e; exact ⟨_, .head _, r⟩
    · obtain ⟨v, h1, h2⟩ := zip_rel rs x av h
      exact ⟨v, .tail _ h1, h2⟩
theorem lookup_of_mem {l : List (Str × Value)} {x : Str} {v : Value} (h : (x, v) ∈ l) (nd : (l.map (·.1)).Nodup) : l.reverse.lookup x = some v := by
  have nd' : (l.reverse.map (·.1)).Nodup := by rw [List.map_reverse]; exact (List.reverse_perm _).nodup_iff.mpr nd
  have h' : (x, v) ∈ l.reverse := List.mem_reverse.mpr h
  generalize l.reverse = r at nd' h'
  induction r with
  | nil => cases h'
  | cons p r ih =>
    obtain ⟨y, u⟩ := p
    have n := List.nodup_cons.mp (show (y :: r.map (·.1)).Nodup from nd')
    rw [List.lookup_cons]
    rcases List.mem_cons.mp h' with e | h2
    · cases e; simp
    · have : (x == y) = false := by
        rw [beq_eq_false_iff_ne]; rintro rfl; exact n.1 (List.mem_map_of_mem (f := (·.1)) h2)
      rw [this]
      exact ih n.2 h2
/-- what is known of a def: its names, its text -/
structure Fn where
  a : Addr
  name : Str
  qual : Str
  params : Arguments
  body : List Stmt
  cs : Scope
  dV : Value
  kV : Value
  doc : Value
  pm : Value
  an : Option Addr
  cd : Value
  ct : Value
  xs : List Str
  rest : List Str
abbrev Fn.data (F : Fn) : FuncData := fnX F.name F.qual F.params F.body F.cs [] F.dV F.kV F.doc F.pm F.an F.cd F.ct
noncomputable def Fn.obj (F : Fn) : Obj := ⟨.type "function", none, .func F.data, #[]⟩
structure FnOk (K : Params → Frag) (F : Fn) : Prop where
  at_ : ∀ P, (K P).lookup F.a = some F.obj
  code : ∀ P, codeIn (K P) F.cd F.qual = true
  bind : ∀ vs : List Value, vs.length = F.xs.length → bindArgs F.data ⟨vs, []⟩ = pure (F.xs.zip vs)
  loc : ∀ y ∈ F.xs, F.cs.names.lookup y = some .local
  nd : (F.xs ++ F.rest).Nodup
  cell : ∀ y ∈ F.cs.names, y.2 ≠ .cell
  co : F.cs.isCoroutine = false
  gen : F.cs.isGenerator = false
  kind : F.cs.kind = .function
/-- a call with any form of arguments -/
noncomputable def CallA (prog : Program) (K : Params → Frag) (mk : List Value → Args) (d : Nat) (fa : Addr) (args : List AV) (objs : List AO) (x : AV) (objs' : List AO) : Prop :=
  ∀ (f : Fx) (c : Cx) (σ : S), f.fn = true → Ok K f (d + 1) c → σ.objs = objs → ∀ as os m s (vs : List Value) (Q : Value → Shared → Prop) (E : Value → Shared → Prop), At c as os m σ s → RVs as args vs →
    (∀ bs os' m' v s', RV (as ++ bs) x v → At c (as ++ bs) os' m' { σ with objs := objs' } s' → Q v s') →
      codeAny (model prog c.w) c.A (.call (.ref fa) (mk vs)) (fun r s' => match r with | .ok (.ret v) => Q v s' | .ok _ => False | .error e => E e s') s
structure FnA (K : Params → Frag) (F : Fn) (mk : List Value → Args) : Prop where
  at_ : ∀ P, (K P).lookup F.a = some F.obj
  code : ∀ P, codeIn (K P) F.cd F.qual = true
  bind : ∀ P (vs : List Value) (s : Shared), vs.length = F.xs.length → (K P).In s.heap → BindsTo s F.data (mk vs) (F.xs.zip vs)
  loc : ∀ y ∈ F.xs, F.cs.names.lookup y = some .local
  nd : (F.xs ++ F.rest).Nodup
  cell : ∀ y ∈ F.cs.names, y.2 ≠ .cell
  co : F.cs.isCoroutine = false
  gen : F.cs.isGenerator = false
  kind : F.cs.kind = .function
section
variable {prog : Program} {K : Params → Frag} {d : Nat}
theorem callA_of {F : Fn} {mk : List Value → Args} {args : List AV} {objs objs' : List AO} {o : Out} {σ' : S} {x : AV} (H : FnA K F mk)
    (hlen : args.length = F.xs.length) (hb : EvB prog K ⟨F.cs, true⟩ d F.body ⟨objs, locs0 F.xs args F.rest, []⟩ o σ') (ho : (match o with | .ret v => v | _ => .val .none) = x) (hob : σ'.objs = objs') : CallA prog K mk d F.a args objs x objs' := by
  intro f c σ hf ok hσ as os m s vs Q E R rvs hq
  subst hσ
  obtain ⟨hcomp, hcL, hcf, ⟨A₀, base, B⟩, hfr⟩ := ok.fn hf
  obtain ⟨p, loose, mean, mg, mb, T⟩ := ok.top
  have X := ok.kin.keeps R.fr.keep
  have lv : vs.length = F.xs.length := rvs.length.trans hlen
  have keysV : (F.xs.zip vs).map (·.1) = F.xs := List.map_fst_zip (by omega)
  refine callX_plain (cl := []) (name := F.name) (qual := F.qual) (params := F.params) (body := F.body) (scope := F.cs) (dV := F.dV) (kV := F.kV) (doc := F.doc) (pm := F.pm) (an := F.an) (cdv := F.cd) (ct := F.ct) (binds := F.xs.zip vs) B R.fr R.news T.nolimit hfr hcf ok.kind' (X _ _ (H.at_ _)) rfl (codeRec_of X (H.code _))
    (Nat.lt_of_le_of_lt (Nat.le_add_right _ _) ok.depth) (H.bind c.w.params vs s lv X) (fun y hy => H.loc y.1 (List.of_mem_zip hy).1) (fun g L' h₁ FG F' N' B' st lt => ?_) H.cell H.co H.gen H.kind
  let c' : Cx := { w := c.w, A := c.A.deeper (envX F.qual F.cs L' F.a F.cd []), h₀ := g, L := L', env := envX F.qual F.cs L' F.a F.cd [], rest := c.rest, comp := none, outer := c.env :: c.outer, gens := c.gens, os := c.os }
  have hfr' : c'.A.frames = some (c'.env :: c'.outer) := by
    show c.A.frames.map _ = _
    rw [hfr]
    rfl
  have ok' : Ok K ⟨F.cs, true⟩ d c' := {
    scope := rfl
    globals := rfl
    builtins := rfl
    kin := ok.kin.keeps st
    top := ⟨p, loose, mean, mg, mb, T.keeps st⟩
    kind := H.kind
    depth := by have := ok.depth; show c.A.depth + 1 + d < _; omega
    units := by have := ok.units; show c.A.units + 3 + 8 * d + 8 < _; omega
    handled := ok.handled
    fn := fun _ => ⟨rfl, rfl, rfl, ⟨_, _, B'⟩, hfr'⟩
    cmp := fun h => nomatch h }
  have nd := List.nodup_append.mp H.nd
  have R' : At c' as os (fun y => (F.xs.zip vs).reverse.lookup y) ⟨σ.objs, locs0 F.xs args F.rest, []⟩ { s with heap := h₁, toks := s.toks + (F.xs.zip vs).length } := {
    gens := R.gens, os_ := R.os_, fr := F', news := N', len := R.len, len' := R.len', nodup := R.nodup
    objs := R.objs
    locs := fun y av hm => by
      unfold locs0 at hm
      rcases List.mem_append.mp hm with h | h
      · obtain ⟨⟨z, u⟩, h1, h2⟩ := List.mem_map.mp h
        cases h2
        obtain ⟨v, h3, h4⟩ := zip_rel rvs _ _ h1
        exact ⟨v, lookup_of_mem h3 (by rw [keysV]; exact nd.1), h4⟩
      · obtain ⟨z, _, h2⟩ := List.mem_map.mp h
        cases h2
    keys := by rw [locs0_keys hlen]; exact H.nd
    cells := fun _ _ h => (nomatch h)
    comp := fun _ h => (nomatch h) }
  refine hb c' ok' as os _ _ _ _ R' fun bs os' m' v s' rv R₂ => ?_
  refine leaveK_ R₂.fr R₂.news fun kF kN => ?_
  refine hq bs os' m _ s' ?_ ?_
  · cases o with
    | ret y => obtain ⟨u, rfl, ru⟩ := rv; subst ho; exact ru
    | next => obtain rfl : v = .next := rv; subst ho; rfl
    | brk => obtain rfl : v = .brk := rv; subst ho; rfl
    | cont => obtain rfl : v = .cont := rv; subst ho; rfl
  · exact { gens := R₂.gens, os_ := R₂.os_, fr := kF, news := kN, len := R₂.len, len' := by rw [← hob]; exact R₂.len', nodup := R₂.nodup, objs := by rw [← hob]; exact R₂.objs,
            locs := fun y av h => let ⟨u, h1, h2⟩ := R.locs y av h; ⟨u, h1, h2.up⟩, keys := R.keys, cells := fun y i h => let ⟨a, h1, h2⟩ := R.cells y i h; ⟨a, h1, getElem?_app h2⟩, comp := R.comp }
theorem callT_of {F : Fn} {args : List AV} {objs objs' : List AO} {o : Out} {σ' : S} {x : AV} (H : FnOk K F)
    (hlen : args.length = F.xs.length) (hb : EvB prog K ⟨F.cs, true⟩ d F.body ⟨objs, locs0 F.xs args F.rest, []⟩ o σ') (ho : (match o with | .ret v => v | _ => .val .none) = x) (hob : σ'.objs = objs') : CallT prog K d F.a args objs x objs' :=
  callA_of (mk := fun vs => ⟨vs, []⟩) ⟨H.at_, H.code, fun P vs s hl _ => BindsTo.of_eq (H.bind vs hl), H.loc, H.nd, H.cell, H.co, H.gen, H.kind⟩ hlen hb ho hob
end
section
variable {prog : Program} {K : Params → Frag} {f : Fx} {d : Nat} {σ σ₁ σ₂ σ₃ : S}
noncomputable def notStar : Expr → Bool
  | .Starred .. => false
  | _ => true
theorem starEach_plain {e : Expr} {rest : List Expr} {env : Env} (h : notStar e = true) : starEach (e :: rest) env = (false, eval e env) :: starEach rest env := by
  cases e <;> first | rfl | exact nb_ h
theorem starEach_any {es : List Expr} {env : Env} {pos : Pos} (h : ∀ e ∈ es, notStar e = true) : (backTo pos (starEach es env)).any (·.1) = false := by
  induction es with
  | nil => rfl
  | cons e es ih =>
    rw [starEach_plain (h e (.head _))]
    exact ih fun e' he => h e' (.tail _ he)
theorem evalArgs_empty {M : Model} {A : Around} {E : Value → Shared → Prop} {s : Shared} {g : Value} {Q : Args → Shared → Prop} (h : wpAny M A (spliced []) (fun vs s' => Q ⟨vs, []⟩ s') E s) : wpAny M A (evalArgs g true [] []) Q E s := by
  unfold evalArgs
  show wpAny M A (spliced [] >>= _) Q E s
  refine wpAny_bind (wpAny_mono h (fun vs s' h' => ?_) fun _ _ x => x)
  refine wpAny_holding ?_
  exact wpAny_bind (wpAny_pure (wpAny_bind (wpAny_pure (wpAny_pure h'))))
theorem EvA.nil : EvA prog K f d [] σ [] σ := by
  intro c pos ok as os m s Q E R hq
  exact Calls.spliced_nil (hq [] os m [] s .nil (by rw [app_nil]; exact R))
theorem EvA.cons {e : Expr} {es : List Expr} {x : AV} {xs : List AV} (hn : notStar e = true) (h : EvE prog K f d e σ x σ₁) (h2 : EvA prog K f d es σ₁ xs σ₂) : EvA prog K f d (e :: es) σ (x :: xs) σ₂ := by
  intro c pos ok as os m s Q E R hq
  rw [starEach_plain hn]
  refine Calls.spliced_cons (h c ok as os m s _ E R fun bs os₁ m₁ v s₁ rv R₁ => ?_)
  refine h2 c pos ok _ os₁ m₁ s₁ _ E R₁ fun bs₂ os₂ m₂ vs s₂ rvs R₂ => ?_
  rw [List.append_assoc] at rvs R₂
  exact hq _ _ _ _ _ (.cons (by rw [← List.append_assoc]; exact rv.up) rvs) R₂
/-- the arguments, and then the call of what K holds -/
theorem callWith_at {c : Cx} {es : List Expr} {xs : List AV} {v : Value} {first : List Value} {pos : Pos} {as : List Addr} {os : List Obj} {m : Str → Option Value} {s : Shared} {Q : Value → Shared → Prop} {E : Value → Shared → Prop} (ok : Ok K f d c) (R : At c as os m σ s) (hs : ∀ e ∈ es, notStar e = true)
    (ha : EvA prog K f d es σ xs σ₁) {P : Heap → Prop} (hk : ∀ h, P h → ∃ k, (k = Keeper.frame ∨ k = Keeper.machine ∨ k = Keeper.boundFrame) ∧ Looks (model prog c.w) h (keeperOf v) k)
    (h : ∀ bs os' m' vs s', RVs (as ++ bs) xs vs → At c (as ++ bs) os' m' σ₁ s' → P s'.heap ∧ wpAny (model prog c.w) c.A (call v (first ++ vs)) Q E s') :
    wpAny (model prog c.w) c.A (callWith pos v first (backTo pos (starEach es c.env)) []) Q E s := by
  refine callWith_of (P := P) (by rw [starEach_any hs]; rfl) hk ?_
  have key := ha c pos ok as os m s (fun vs s' => P s'.heap ∧ wpAny (model prog c.w) c.A (call v (first ++ vs)) Q E s') E R h
  cases es with
  | nil => exact evalArgs_empty key
  | cons e es =>
    rw [starEach_plain (hs e (.head _))] at key ⊢
    exact evalArgs_plain key
/-- a call of a def of K -/
theorem EvE.callFn {fe : Expr} {es : List Expr} {pos : Pos} {fa : Addr} {xs : List AV} {x : AV} {objs' : List AO} (hf : f.fn = true) (h1 : EvE prog K f (d + 1) fe σ (.val (.ref fa)) σ₁) (hs : ∀ e ∈ es, notStar e = true)
    (hfe : ∀ env : Env, eval (.Call fe es [] pos) env = (do callWith pos (← eval fe env) [] (backTo pos (starEach es env)) (backToKw pos (keywordEach [] env))))
    (ha : EvA prog K f (d + 1) es σ₁ xs σ₂) (hk : ∀ P, keepIn (K P) (.ref fa) = true) (hc : CallT prog K d fa xs σ₂.objs x objs') :
    EvE prog K f (d + 1) (.Call fe es [] pos) σ x { σ₂ with objs := objs' } := by
  intro c ok as os m s Q E R hq
  refine Call_ (h1 c ok as os m s _ E R fun bs os₁ m₁ v s₁ rv R₁ => ?_) (hfe _)
  obtain rfl : v = .ref fa := rv
  refine callWith_at ok R₁ hs ha (P := (K c.w.params).In) (fun h X => keeps_K (hk _) h X) fun bs₂ os₂ m₂ vs s₂ rvs R₂ => ⟨ok.kin.keeps R₂.fr.keep, ?_⟩
  refine wpAny_call (hc f c σ₂ hf ok rfl _ os₂ m₂ s₂ vs Q E R₂ rvs fun bs₃ os₃ m₃ v s₃ rv R₃ => ?_)
  rw [List.append_assoc, List.append_assoc] at rv R₃
  exact hq _ _ _ _ _ rv R₃
/-- a call of a method of an instance -/
theorem EvE.callMeth {o : Expr} {name : Str} {apos : Pos} {es : List Expr} {pos : Pos} {fa : Addr} {i j : Nat} {C : Addr} {at_ : List (Str × AV)} {xs : List AV} {x : AV} {objs' : List AO} (hf : f.fn = true) (h1 : EvE prog K f (d + 1) o σ (.obj i) σ₁) (hs : ∀ e ∈ es, notStar e = true)
    (pl : Env → Sem Bool) (hfe : ∀ env : Env, eval (.Call (.Attribute o name apos) es [] pos) env = (do
      let ov ← eval o env
      standAt apos.atName
      let (f, first) ← holding [ov] (getMethod ov name (pl env))
      callWith pos f first (backTo pos (starEach es env)) []))
    (hi : σ₁.objs[i]? = some (.inst C j)) (hj : σ₁.objs[j]? = some (.attrs at_)) (hn : look name at_ = none) (hm : ∀ P, methName (K P) C name fa = true)
    (ha : EvA prog K f (d + 1) es σ₁ xs σ₂) (hk : ∀ P, keepIn (K P) (.ref fa) = true) (hc : CallT prog K d fa (.obj i :: xs) σ₂.objs x objs') :
    EvE prog K f (d + 1) (.Call (.Attribute o name apos) es [] pos) σ x { σ₂ with objs := objs' } := by
  intro c ok as os m s Q E R hq
  refine MethodCall_ (pl := pl c.env) (h1 c ok as os m s _ E R fun bs os₁ m₁ v s₁ rv R₁ => ?_) (hfe _)
  obtain ⟨ax, dx, l, nn, g1, g2, _, I, r, _⟩ := R₁.inst hi hj
  obtain ⟨a, g1', rfl⟩ := rv
  rw [g1] at g1'; cases g1'
  have hm' := hm c.w.params
  unfold methName at hm'
  simp only [Bool.and_eq_true, beq_iff_eq, Bool.not_eq_true'] at hm'
  obtain ⟨⟨⟨⟨⟨⟨⟨c1, c2⟩, c3⟩, c4⟩, c5⟩, c6⟩, c7⟩, c8⟩ := hm'
  refine method_inst R₁.fr ok.kin I c1 c3 c4 (getL_none r hn) ?_
  refine callWith_at ok R₁ hs ha (P := (K c.w.params).In) (fun h X => keeps_K (hk _) h X) fun bs₂ os₂ m₂ vs s₂ rvs R₂ => ⟨ok.kin.keeps R₂.fr.keep, ?_⟩
  refine wpAny_call (hc f c σ₂ hf ok rfl _ os₂ m₂ s₂ (.ref ax :: vs) Q E R₂ (.cons ⟨ax, getElem?_app g1, rfl⟩ rvs) fun bs₃ os₃ m₃ v s₃ rv R₃ => ?_)
  rw [List.append_assoc, List.append_assoc] at rv R₃
  exact hq _ _ _ _ _ rv R₃
/-- a bound method made -/
theorem EvE.bound {n : Str} {np pos : Pos} {x : Str} {i j : Nat} {C fa : Addr} {es : List (Str × AV)} (h : EvE prog K f d (.Name n np) σ (.obj i) σ₁) (hi : σ₁.objs[i]? = some (.inst C j)) (hj : σ₁.objs[j]? = some (.attrs es))
    (hm : ∀ P, methName (K P) C x fa = true) (hg : look x es = none) : EvE prog K f d (.Attribute (.Name n np) x pos) σ (.obj σ₁.objs.length) { σ₁ with objs := σ₁.objs ++ [.meth fa (.obj i)] } := by
  intro c ok as os m s Q E R hq
  refine Attribute_name (h c ok as os m s _ E R fun bs os₁ m₁ v s₁ rv R₁ => ?_)
  obtain ⟨ax, dx, l, nn, h1, h2, _, I, r, _⟩ := R₁.inst hi hj
  obtain ⟨a', h1', rfl⟩ := rv
  rw [h1] at h1'; cases h1'
  have hm' := hm c.w.params
  unfold methName at hm'
  simp only [Bool.and_eq_true, beq_iff_eq, Bool.not_eq_true'] at hm'
  obtain ⟨⟨⟨⟨⟨⟨⟨c1, c2⟩, c3⟩, c4⟩, c5⟩, c6⟩, c7⟩, c8⟩ := hm'
  refine kbm_bound R₁.fr ok.kin R₁.news I c1 c2 c3 c4 c6 c7 c8 (getL_none r hg) fun q h' F' N' l1 => ?_
  have nf := not_mem_of_lt R₁.len l1
  have R₂ := R₁.new (s' := { s₁ with heap := h', toks := s₁.toks + 1 }) (a := q) (ao := .meth fa (.obj i)) rfl rfl F' N' nf ⟨.ref ax, ⟨ax, getElem?_app h1, rfl⟩, rfl⟩
  rw [List.append_assoc] at R₂
  refine hq _ _ _ _ _ ⟨q, ?_, rfl⟩ R₂
  rw [← List.append_assoc, R₁.len', List.getElem?_append_right (Nat.le_refl _), Nat.sub_self]
  rfl
/-- a call of a bound method -/
theorem EvE.callBound {fe : Expr} {es : List Expr} {pos : Pos} {fa : Addr} {k : Nat} {self : AV} {xs : List AV} {x : AV} {objs' : List AO} (hf : f.fn = true) (h1 : EvE prog K f (d + 1) fe σ (.obj k) σ₁) (hs : ∀ e ∈ es, notStar e = true)
    (hfe : ∀ env : Env, eval (.Call fe es [] pos) env = (do callWith pos (← eval fe env) [] (backTo pos (starEach es env)) (backToKw pos (keywordEach [] env))))
    (ha : EvA prog K f (d + 1) es σ₁ xs σ₂) (ho2 : σ₂.objs[k]? = some (.meth fa self)) (hk : ∀ P, fnIn (K P) fa = true) (hc : CallT prog K d fa (self :: xs) σ₂.objs x objs') :
    EvE prog K f (d + 1) (.Call fe es [] pos) σ x { σ₂ with objs := objs' } := by
  intro c ok as os m s Q E R hq
  refine Call_ (h1 c ok as os m s _ E R fun bs os₁ m₁ v s₁ rv R₁ => ?_) (hfe _)
  obtain ⟨q, hq1, rfl⟩ := rv
  refine callWith_at ok R₁ hs ha (P := fun h => ∃ u, MethP (K c.w.params) q fa u h) (fun h ⟨u, X⟩ => keeps_M (hk _) h X) fun bs₂ os₂ m₂ vs s₂ rvs R₂ => ?_
  obtain ⟨a, o, g1, g2, g3, g4, u, ru, rfl⟩ := R₂.obj ho2
  rw [getElem?_app hq1] at g1
  cases g1
  refine ⟨⟨u, g4, ok.kin.keeps R₂.fr.keep⟩, wpAny_call (method_call g4 ?_)⟩
  refine hc f c σ₂ hf ok rfl _ os₂ m₂ s₂ (u :: vs) Q E R₂ (.cons ru rvs) fun bs₃ os₃ m₃ v s₃ rv R₃ => ?_
  rw [List.append_assoc, List.append_assoc] at rv R₃
  exact hq _ _ _ _ _ rv R₃
end
end Mine
/-! text M5 -/
open PySem PySem.W PyProof.Rows PySem.Spec PySem.Calls
set_option Elab.async false
set_option maxRecDepth 100000
namespace Mine
/-- the int that a value is said to be -/
noncomputable def AV.i? : AV → Option Int
  | .cint i => some i
  | .int i => some i
  | _ => none
noncomputable def AV.known : AV → Bool
  | .cint _ => true
  | _ => false
noncomputable def mkI : Bool → Int → AV
  | true, i => .cint i
  | false, i => .int i
theorem RV.int_of {as : List Addr} {x : AV} {v : Value} {i : Int} (h : x.i? = some i) (r : RV as x v) : ∃ t, v = .int i t := by
  cases x <;> first | (cases h; exact r) | cases h
theorem RV.mkI {as : List Addr} {b : Bool} {i : Int} {t : Tok} : RV as (mkI b i) (.int i t) := by cases b <;> exact ⟨t, rfl⟩
theorem RV.any_of {as : List Addr} {x : AV} {v : Value} {i : Int} (h : x.i? = some i) (r : RV as x v) : RV as .any v := by
  obtain ⟨t, rfl⟩ := r.int_of h; exact ⟨i, t, rfl⟩
noncomputable def opI : Operator → Int → Int → Option (Int × List Prop)
  | .Add, a, b => some (a + b, [])
  | .Sub, a, b => some (a - b, [])
  | .Mult, a, b => some (a * b, [IntMulOk a b])
  | .BitAnd, a, b => some (Builtin.bitAnd a b, [])
  | .BitOr, a, b => some (Builtin.bitOr a b, [])
  | .BitXor, a, b => some (Builtin.bitXor a b, [])
  | .Mod, a, b => some (a.fmod b, [b ≠ 0])
  | .FloorDiv, a, b => some (a.fdiv b, [b ≠ 0, Builtin.divisionGoesByPylong a b = false])
  | .LShift, a, b => some (a * 2 ^ b.toNat, [0 ≤ b, b ≤ 1000000, a.natAbs < 2 ^ 64])
  | .RShift, a, b => some (a.fdiv (2 ^ b.toNat), [0 ≤ b])
  | _, _, _ => none
theorem pair_inj {α β : Type} {a x : α} {b y : β} (h : some (a, b) = some (x, y)) : a = x ∧ b = y := by cases h; exact ⟨rfl, rfl⟩
theorem opI_bin {prog : Program} {w : World} {A : Around} {E : Value → Shared → Prop} {s : Shared} {op : Operator} {a b z : Int} {t u : Tok} {gs : List Prop} {Q : Value → Shared → Prop} (h : opI op a b = some (z, gs)) (hg : ∀ p ∈ gs, p) (q : ∀ t k, Q (.int z t) { s with toks := k }) :
    wpAny (model prog w) A (binaryOp op (.int a t) (.int b u)) Q E s := by
  cases op <;> first | exact no_ h | (cases h; done) | skip
  all_goals (obtain ⟨rfl, rfl⟩ := pair_inj h)
  · exact add_int (q _ _)
  · exact PyProof.Rows.sub_int (q _ _)
  · exact PyProof.Rows.mul_int (q _ _) (hg _ (.head _))
  · exact mod_int (hg _ (.head _)) (q _ _)
  · exact lshift_int_small (hg _ (.head _)) (hg _ (.tail _ (.head _))) (hg _ (.tail _ (.tail _ (.head _)))) (q _ _)
  · exact rshift_int (hg _ (.head _)) (q _ _)
  · exact or_int (q _ _)
  · exact xor_int (q _ _)
  · exact and_int (q _ _)
  · exact floordiv_int (hg _ (.head _)) (q _ _) (.inl (hg _ (.tail _ (.head _))))
theorem opI_inplace {prog : Program} {w : World} {A : Around} {E : Value → Shared → Prop} {s : Shared} {op : Operator} {a b z : Int} {t u : Tok} {gs : List Prop} {Q : Value → Shared → Prop} (h : opI op a b = some (z, gs)) (hg : ∀ p ∈ gs, p) (q : ∀ t k, Q (.int z t) { s with toks := k }) :
    wpAny (model prog w) A (inplaceOp op (.int a t) (.int b u)) Q E s := by
  cases op <;> first | exact no_ h | (cases h; done) | skip
  all_goals (obtain ⟨rfl, rfl⟩ := pair_inj h)
  · exact PyProof.Rows.iadd_int (q _ _)
  · exact PyProof.Rows.isub_int (q _ _)
  · exact PyProof.Rows.imul_int (q _ _) (hg _ (.head _))
  · exact imod_int (hg _ (.head _)) (q _ _)
  · exact ilshift_int_small (hg _ (.head _)) (hg _ (.tail _ (.head _))) (hg _ (.tail _ (.tail _ (.head _)))) (q _ _)
  · exact irshift_int (hg _ (.head _)) (q _ _)
  · exact ior_int (q _ _)
  · exact ixor_int (q _ _)
  · exact iand_int (q _ _)
  · exact ifloordiv_int (hg _ (.head _)) (q _ _) (.inl (hg _ (.tail _ (.head _))))
noncomputable def isAdd : Operator → Bool
  | .Add => true
  | _ => false
/-- an operation on values -/
noncomputable def opV (op : Operator) (x y : AV) : Option (AV × List Prop) := match x.i? with
  | some a => match y.i? with
    | some b => match opI op a b with
      | some (z, gs) => some (mkI (x.known && y.known) z, gs)
      | none => none
    | none => match y, isAdd op with
      | .any, true => some (.any, [])
      | _, _ => none
  | none => match x, isAdd op with
    | .any, true => match y.i? with
      | some _ => some (.any, [])
      | none => match y with
        | .any => some (.any, [])
        | _ => none
    | _, _ => none
theorem opV_cases {op : Operator} {x y z : AV} {gs : List Prop} (h : opV op x y = some (z, gs)) : (∃ a b c k, x.i? = some a ∧ y.i? = some b ∧ opI op a b = some (c, gs) ∧ z = mkI k c) ∨
    (op = .Add ∧ z = .any ∧ (∀ as v, RV as x v → RV as .any v) ∧ ∀ as v, RV as y v → RV as .any v) := by
  unfold opV at h
  cases e : x.i? with
  | some a =>
    rw [e] at h
    dsimp only at h
    cases e2 : y.i? with
    | some b =>
      rw [e2] at h
      dsimp only at h
      cases e3 : opI op a b with
      | none => rw [e3] at h; first | exact no_ h | cases h
      | some p => obtain ⟨c, g⟩ := p; rw [e3] at h; cases h; exact .inl ⟨a, b, c, _, rfl, rfl, e3, rfl⟩
    | none =>
      rw [e2] at h
      dsimp only at h
      split at h
      · first | exact no_ h | cases h
        rename_i h'
        have ho : op = .Add := by cases op <;> first | rfl | cases h'
        refine .inr ⟨ho, rfl, fun as v r => r.any_of e, fun as v r => r⟩
      · first | exact no_ h | cases h
  | none =>
    rw [e] at h
    dsimp only at h
    split at h
    · rename_i h'
      have ho : op = .Add := by cases op <;> first | rfl | cases h'
      split at h
      · rename_i e2
        cases h
        exact .inr ⟨ho, rfl, fun as v r => r, fun as v r => r.any_of e2⟩
      · split at h
        · first | exact no_ h | cases h
          exact .inr ⟨ho, rfl, fun as v r => r, fun as v r => r⟩
        · first | exact no_ h | cases h
    · first | exact no_ h | cases h
theorem opV_bin {prog : Program} {op : Operator} {x y z : AV} {gs : List Prop} (h : opV op x y = some (z, gs)) (hg : ∀ p ∈ gs, p) (w : World) (A : Around) (as : List Addr) (a b : Value) (s : Shared) (Q E : Value → Shared → Prop) (ra : RV as x a) (rb : RV as y b) (q : ∀ v t, RV as z v → Q v { s with toks := t }) :
    wpAny (model prog w) A (binaryOp op a b) Q E s := by
  rcases opV_cases h with ⟨i, j, k, kn, e1, e2, e3, rfl⟩ | ⟨rfl, rfl, e1, e2⟩
  · obtain ⟨t, rfl⟩ := ra.int_of e1
    obtain ⟨u, rfl⟩ := rb.int_of e2
    exact opI_bin e3 hg fun t k => q _ _ .mkI
  · obtain ⟨i, t, rfl⟩ := e1 _ _ ra
    obtain ⟨j, u, rfl⟩ := e2 _ _ rb
    exact add_int (q _ _ ⟨_, _, rfl⟩)
theorem opV_inplace {prog : Program} {op : Operator} {x y z : AV} {gs : List Prop} (h : opV op x y = some (z, gs)) (hg : ∀ p ∈ gs, p) (w : World) (A : Around) (as : List Addr) (a b : Value) (s : Shared) (Q E : Value → Shared → Prop) (ra : RV as x a) (rb : RV as y b) (q : ∀ v t, RV as z v → Q v { s with toks := t }) :
    wpAny (model prog w) A (inplaceOp op a b) Q E s := by
  rcases opV_cases h with ⟨i, j, k, kn, e1, e2, e3, rfl⟩ | ⟨rfl, rfl, e1, e2⟩
  · obtain ⟨t, rfl⟩ := ra.int_of e1
    obtain ⟨u, rfl⟩ := rb.int_of e2
    exact opI_inplace e3 hg fun t k => q _ _ .mkI
  · obtain ⟨i, t, rfl⟩ := e1 _ _ ra
    obtain ⟨j, u, rfl⟩ := e2 _ _ rb
    exact PyProof.Rows.iadd_int (q _ _ ⟨_, _, rfl⟩)
noncomputable def mkB : Bool → Bool → AV
  | true, b => .cb b
  | false, b => .bool b
theorem RV.mkB {as : List Addr} {k b : Bool} : RV as (mkB k b) (.bool b) := by cases k <;> rfl
/-- comparisons of ints, of strs; with None -/
noncomputable def cmpI : CmpOp → Int → Int → Option Bool
  | .Eq, a, b => some (a == b)
  | .NotEq, a, b => some (a != b)
  | .Lt, a, b => some (decide (a < b))
  | .Gt, a, b => some (decide (b < a))
  | .LtE, a, b => some (decide (a ≤ b))
  | .GtE, a, b => some (decide (b ≤ a))
  | _, _, _ => none
noncomputable def cmpS : CmpOp → Str → Str → Option Bool
  | .Eq, a, b => some (Fast.sEq a b)
  | .NotEq, a, b => some (!Fast.sEq a b)
  | _, _, _ => none
noncomputable def isNoneV : AV → Option Bool
  | .cint _ => some false
  | .int _ => some false
  | .any => some false
  | .str _ => some false
  | .cb _ => some false
  | .bool _ => some false
  | .obj _ => some false
  | .val .none => some true
  | .val (.ref _) => some false
  | .val (.type _) => some false
  | _ => none
noncomputable def isOp : CmpOp → Option Bool
  | .Is => some true
  | .IsNot => some false
  | _ => none
noncomputable def AV.none? : AV → Bool
  | .val .none => true
  | _ => false
noncomputable def AV.s? : AV → Option Str
  | .str x => some x
  | _ => none
noncomputable def cmpV (op : CmpOp) (x y : AV) : Option AV := match isOp op with
  | some k => match y.none? with
    | true => match isNoneV x with
      | some b => some (.cb (match k with | true => b | false => !b))
      | none => none
    | false => none
  | none => match x.i? with
    | some a => match y.i? with
      | some b => match cmpI op a b with
        | some r => some (mkB (x.known && y.known) r)
        | none => none
      | none => none
    | none => match x.s? with
      | some a => match y.s? with
        | some b => match cmpS op a b with
          | some r => some (.cb r)
          | none => none
        | none => none
      | none => none
theorem isNone_of {as : List Addr} {x : AV} {v : Value} {b : Bool} (h : isNoneV x = some b) (r : RV as x v) : plainIs v .none = true ∧ (v == .none) = b := by
  cases x with
  | cint i => obtain ⟨t, rfl⟩ := r; cases h; exact ⟨rfl, rfl⟩
  | int i => obtain ⟨t, rfl⟩ := r; cases h; exact ⟨rfl, rfl⟩
  | any => obtain ⟨i, t, rfl⟩ := r; cases h; exact ⟨rfl, rfl⟩
  | str i => obtain ⟨t, rfl⟩ := r; cases h; exact ⟨rfl, rfl⟩
  | cb i => obtain rfl : v = .bool i := r; cases h; exact ⟨rfl, rfl⟩
  | bool i => obtain rfl : v = .bool i := r; cases h; exact ⟨rfl, rfl⟩
  | obj i => obtain ⟨a, _, rfl⟩ := r; cases h; exact ⟨rfl, rfl⟩
  | val u =>
    obtain rfl : v = u := r
    cases v <;> first | exact no_ h | (cases h; done) | (cases h; exact ⟨rfl, rfl⟩)
  | blt b => cases h
  | top => first | exact no_ h | cases h
theorem sEq_beq {a b : Str} : (a == b) = Fast.sEq a b := by
  cases e : Fast.sEq a b with
  | true => have := Fast.sEq_iff.mp e; subst this; simp
  | false => exact sEq_false e
theorem cmpI_of {prog : Program} {op : CmpOp} {a b : Int} {r : Bool} (h : cmpI op a b = some r) {w : World} {A : Around} {t u : Tok} {s : Shared} {Q E : Value → Shared → Prop} (q : Q (.bool r) s) : wpAny (model prog w) A (compareOp op (.int a t) (.int b u)) Q E s := by
  cases op <;> first | exact no_ h | (cases h; done) | skip
  all_goals (unfold cmpI at h; cases h)
  · exact eq_int q
  · exact ne_int q
  · exact lt_int q
  · exact le_int q
  · exact gt_int q
  · exact ge_int q
theorem cmpS_of {prog : Program} {op : CmpOp} {a b : Str} {r : Bool} (h : cmpS op a b = some r) {w : World} {A : Around} {t u : Tok} {s : Shared} {Q E : Value → Shared → Prop} (q : Q (.bool r) s) : wpAny (model prog w) A (compareOp op (.str a t) (.str b u)) Q E s := by
  cases op <;> first | exact no_ h | (cases h; done) | skip
  all_goals (unfold cmpS at h; cases h)
  · exact eq_str (by rw [sEq_beq]; exact q)
  · refine ne_str ?_
    show Q (Value.bool (!(_ == _))) s
    rw [sEq_beq]; exact q
theorem none_of {y : AV} (h : y.none? = true) : y = .val .none := by
  cases y with
  | val u =>
    cases u with
    | none => rfl
    | _ => exact nb_ h
  | _ => exact nb_ h
theorem isOp_of {op : CmpOp} {k : Bool} (h : isOp op = some k) : (op = .Is ∧ k = true) ∨ (op = .IsNot ∧ k = false) := by
  cases op with
  | Is => exact .inl ⟨rfl, (Option.some.inj h).symm⟩
  | IsNot => exact .inr ⟨rfl, (Option.some.inj h).symm⟩
  | _ => exact no_ h
theorem cmpV_of {prog : Program} {op : CmpOp} {x y z : AV} (h : cmpV op x y = some z) (w : World) (A : Around) (as : List Addr) (a b : Value) (s : Shared) (Q E : Value → Shared → Prop) (ra : RV as x a) (rb : RV as y b) (q : ∀ v, RV as z v → Q v s) :
    wpAny (model prog w) A (compareOp op a b) Q E s := by
  unfold cmpV at h
  cases e0 : isOp op with
  | some k =>
    rw [e0] at h
    dsimp only at h
    cases e1 : y.none? with
    | false => rw [e1] at h; first | exact no_ h | cases h
    | true =>
      rw [e1] at h
      dsimp only at h
      obtain rfl := none_of e1
      obtain rfl : b = .none := rb
      cases e2 : isNoneV x with
      | none => rw [e2] at h; first | exact no_ h | cases h
      | some b' =>
        rw [e2] at h
        cases h
        obtain ⟨p1, p2⟩ := isNone_of e2 ra
        rcases isOp_of e0 with ⟨rfl, rfl⟩ | ⟨rfl, rfl⟩
        · exact wpAny_is_plain p1 (q _ (by rw [p2]; rfl))
        · exact wpAny_isNot_plain p1 (q _ (by rw [p2]; rfl))
  | none =>
    rw [e0] at h
    dsimp only at h
    cases e : x.i? with
    | some i =>
      rw [e] at h
      dsimp only at h
      cases e2 : y.i? with
      | none => rw [e2] at h; first | exact no_ h | cases h
      | some j =>
        rw [e2] at h
        dsimp only at h
        cases e3 : cmpI op i j with
        | none => rw [e3] at h; first | exact no_ h | cases h
        | some r =>
          rw [e3] at h
          cases h
          obtain ⟨t, rfl⟩ := ra.int_of e
          obtain ⟨u, rfl⟩ := rb.int_of e2
          exact cmpI_of e3 (q _ .mkB)
    | none =>
      rw [e] at h
      dsimp only at h
      have strOf : ∀ {x : AV} {v : Value} {z : Str}, x.s? = some z → RV as x v → ∃ t, v = .str z t := fun {x} {v} {z} h r => by
        cases x <;> first | exact no_ h | (cases h; done) | (cases h; exact r)
      cases e2 : x.s? with
      | none => rw [e2] at h; first | exact no_ h | cases h
      | some i =>
        rw [e2] at h
        dsimp only at h
        cases e3 : y.s? with
        | none => rw [e3] at h; first | exact no_ h | cases h
        | some j =>
          rw [e3] at h
          dsimp only at h
          cases e4 : cmpS op i j with
          | none => rw [e4] at h; first | exact no_ h | cases h
          | some r =>
            rw [e4] at h
            cases h
            obtain ⟨t, rfl⟩ := strOf e2 ra
            obtain ⟨u, rfl⟩ := strOf e3 rb
            exact cmpS_of e4 (q _ rfl)
/-- the truth of a value; under a guard where it is not known -/
noncomputable def truthV : AV → Option (Bool × Bool)
  | .cint i => some (i != 0, true)
  | .int i => some (i != 0, false)
  | .cb b => some (b, true)
  | .bool b => some (b, false)
  | .val .none => some (false, true)
  | _ => none
theorem truth_of {prog : Program} {w : World} {A : Around} {as : List Addr} {x : AV} {v : Value} {b k : Bool} {s : Shared} {Q : Bool → Shared → Prop} {E : Value → Shared → Prop} (h : truthV x = some (b, k)) (r : RV as x v) (q : Q b s) : wpAny (model prog w) A (truthy v) Q E s := by
  cases x with
  | cint i => obtain ⟨t, rfl⟩ := r; cases h; exact truthy_int q
  | int i => obtain ⟨t, rfl⟩ := r; cases h; exact truthy_int q
  | cb i => obtain rfl : v = .bool i := r; cases h; exact wpAny_pure q
  | bool i => obtain rfl : v = .bool i := r; cases h; exact wpAny_pure q
  | val u =>
    obtain rfl : v = u := r
    cases v <;> first | exact no_ h | (cases h; done) | (cases h; exact truthy_none q)
  | any => first | exact no_ h | cases h
  | str x => cases h
  | obj i => cases h
  | blt b => cases h
  | top => first | exact no_ h | cases h
noncomputable def plainTest : Expr → Bool
  | .Name .. => true
  | .BinOp .. => true
  | .Attribute .. => true
  | .Call .. => true
  | .Subscript .. => true
  | .Constant .. => true
  | _ => false
section
variable {prog : Program} {K : Params → Frag} {f : Fx} {d : Nat} {σ σ₁ σ₂ σ₃ : S}
theorem EvE.bin {op : Operator} {l r : Expr} {pos : Pos} {x y z : AV} {gs : List Prop} (h1 : EvE prog K f d l σ x σ₁) (h2 : EvE prog K f d r σ₁ y σ₂) (h : opV op x y = some (z, gs)) (hg : ∀ p ∈ gs, p) :
    EvE prog K f d (.BinOp l op r pos) σ z σ₂ := by
  intro c ok as os m s Q E R hq
  refine wpAny_BinOp (h1 c ok as os m s _ E R fun bs os₁ m₁ a s₁ ra R₁ => ?_)
  refine h2 c ok _ os₁ m₁ s₁ _ E R₁ fun bs₂ os₂ m₂ b s₂ rb R₂ => ?_
  refine opV_bin h hg c.w c.A (as ++ bs ++ bs₂) a b s₂ Q E ra.up rb fun v t rv => ?_
  rw [List.append_assoc] at rv R₂
  exact hq (bs ++ bs₂) os₂ m₂ v _ rv (R₂.toks t)
theorem EvE.inv {e : Expr} {pos : Pos} {x : AV} {a : Int} (h : EvE prog K f d e σ x σ₁) (hx : x.i? = some a) : EvE prog K f d (.UnaryOp .Invert e pos) σ (mkI x.known (Builtin.bitNot a)) σ₁ := by
  intro c ok as os m s Q E R hq
  refine wpAny_UnaryOp (h c ok as os m s _ E R fun bs os₁ m₁ v s₁ rv R₁ => ?_)
  obtain ⟨t, rfl⟩ := rv.int_of hx
  exact invert_int (hq _ _ _ _ _ .mkI (R₁.toks _))
theorem EvE.neg {e : Expr} {pos : Pos} {x : AV} {a : Int} (h : EvE prog K f d e σ x σ₁) (hx : x.i? = some a) : EvE prog K f d (.UnaryOp .USub e pos) σ (mkI x.known (-a)) σ₁ := by
  intro c ok as os m s Q E R hq
  refine wpAny_UnaryOp (h c ok as os m s _ E R fun bs os₁ m₁ v s₁ rv R₁ => ?_)
  obtain ⟨t, rfl⟩ := rv.int_of hx
  exact PyProof.Rows.neg_int (hq _ _ _ _ _ .mkI (R₁.toks _))
theorem EvE.cmp {op : CmpOp} {l r : Expr} {pos : Pos} {x y z : AV} (h1 : EvE prog K f d l σ x σ₁) (h2 : EvE prog K f d r σ₁ y σ₂) (hm : behindInMarks op r = false) (h : cmpV op x y = some z) :
    EvE prog K f d (.Compare l [op] [r] pos) σ z σ₂ := by
  intro c ok as os m s Q E R hq
  refine wpAny_Compare1 (h1 c ok as os m s _ E R fun bs os₁ m₁ a s₁ ra R₁ => ?_) hm
  refine h2 c ok _ os₁ m₁ s₁ _ E R₁ fun bs₂ os₂ m₂ b s₂ rb R₂ => ?_
  refine cmpV_of h c.w c.A (as ++ bs ++ bs₂) a b s₂ Q E ra.up rb fun v rv => ?_
  rw [List.append_assoc] at rv R₂
  exact hq (bs ++ bs₂) os₂ m₂ v _ rv R₂
theorem EvT.plain {e : Expr} {x : AV} {b k : Bool} (hp : plainTest e = true) (h : EvE prog K f d e σ x σ₁) (ht : truthV x = some (b, k)) : EvT prog K f d e σ b σ₁ := by
  intro c ok as os m s Q E R hq
  have key := h c ok as os m s (fun v s₁ => wpAny (model prog c.w) c.A (truthy v) Q E s₁) E R fun bs os' m' v s' rv R' => truth_of ht rv (hq _ _ _ _ R')
  cases e <;> first | (cases hp; done) | exact isTrue_plain key
theorem EvT.cmp {op : CmpOp} {l r : Expr} {pos : Pos} {x y z : AV} {b k : Bool} (h1 : EvE prog K f d l σ x σ₁) (h2 : EvE prog K f d r σ₁ y σ₂) (hm : behindInMarks op r = false) (h : cmpV op x y = some z) (ht : truthV z = some (b, k)) :
    EvT prog K f d (.Compare l [op] [r] pos) σ b σ₂ := by
  intro c ok as os m s Q E R hq
  refine wpAny_isTrue_Compare1 (h1 c ok as os m s _ E R fun bs os₁ m₁ a s₁ ra R₁ => ?_) hm
  refine h2 c ok _ os₁ m₁ s₁ _ E R₁ fun bs₂ os₂ m₂ v s₂ rb R₂ => ?_
  refine cmpV_of h c.w c.A (as ++ bs ++ bs₂) a v s₂ _ E ra.up rb fun v rv => ?_
  rw [List.append_assoc] at R₂
  exact truth_of ht rv (hq _ _ _ _ R₂)
theorem EvT.not {e : Expr} {pos : Pos} {b : Bool} (h : EvT prog K f d e σ b σ₁) : EvT prog K f d (.UnaryOp .Not e pos) σ (!b) σ₁ := by
  intro c ok as os m s Q E R hq
  exact isTrue_not (h c ok as os m s _ E R fun bs os' m' s' R' => hq _ _ _ _ R')
theorem EvT.and_nil {pos : Pos} : EvT prog K f d (.BoolOp .And [] pos) σ true σ := by
  intro c ok as os m s Q E R hq
  exact isTrue_and_nil (hq [] os m s (by rw [app_nil]; exact R))
theorem EvT.or_nil {pos : Pos} : EvT prog K f d (.BoolOp .Or [] pos) σ false σ := by
  intro c ok as os m s Q E R hq
  exact isTrue_or_nil (hq [] os m s (by rw [app_nil]; exact R))
theorem EvT.and_f {e : Expr} {es : List Expr} {pos : Pos} (h : EvT prog K f d e σ false σ₁) : EvT prog K f d (.BoolOp .And (e :: es) pos) σ false σ₁ := by
  intro c ok as os m s Q E R hq
  exact isTrue_and (h c ok as os m s _ E R fun bs os' m' s' R' => hq _ _ _ _ R')
theorem EvT.and_t {e : Expr} {es : List Expr} {pos : Pos} {b : Bool} (h : EvT prog K f d e σ true σ₁) (h2 : EvT prog K f d (.BoolOp .And es pos) σ₁ b σ₂) : EvT prog K f d (.BoolOp .And (e :: es) pos) σ b σ₂ := by
  intro c ok as os m s Q E R hq
  refine isTrue_and (h c ok as os m s _ E R fun bs os₁ m₁ s₁ R₁ => ?_)
  have key := h2 c ok _ os₁ m₁ s₁ Q E R₁ fun bs₂ os₂ m₂ s₂ R₂ => by
    rw [List.append_assoc] at R₂
    exact hq _ _ _ _ R₂
  exact key
theorem EvT.or_t {e : Expr} {es : List Expr} {pos : Pos} (h : EvT prog K f d e σ true σ₁) : EvT prog K f d (.BoolOp .Or (e :: es) pos) σ true σ₁ := by
  intro c ok as os m s Q E R hq
  exact isTrue_or (h c ok as os m s _ E R fun bs os' m' s' R' => hq _ _ _ _ R')
theorem EvT.or_f {e : Expr} {es : List Expr} {pos : Pos} {b : Bool} (h : EvT prog K f d e σ false σ₁) (h2 : EvT prog K f d (.BoolOp .Or es pos) σ₁ b σ₂) : EvT prog K f d (.BoolOp .Or (e :: es) pos) σ b σ₂ := by
  intro c ok as os m s Q E R hq
  refine isTrue_or (h c ok as os m s _ E R fun bs os₁ m₁ s₁ R₁ => ?_)
  have key := h2 c ok _ os₁ m₁ s₁ Q E R₁ fun bs₂ os₂ m₂ s₂ R₂ => by
    rw [List.append_assoc] at R₂
    exact hq _ _ _ _ R₂
  exact key
theorem EvS.ite {test : Expr} {body orelse : List Stmt} {pos : Pos} {b : Bool} {o : Out} (h : EvT prog K f d test σ b σ₁) (h2 : EvB prog K f d (match b with | true => body | false => orelse) σ₁ o σ₂) : EvS prog K f d (.If test body orelse pos) σ o σ₂ := by
  intro c ok as os m s Q E R hq
  refine wpAny_If (h c ok as os m s _ E R fun bs os₁ m₁ s₁ R₁ => ?_)
  have key := h2 c ok _ os₁ m₁ s₁ Q E R₁ fun bs₂ os₂ m₂ v s₂ rv R₂ => by
    rw [List.append_assoc] at rv R₂
    exact hq _ _ _ _ _ rv R₂
  cases b <;> exact key
theorem EvE.ite {test body orelse : Expr} {pos : Pos} {b : Bool} {x : AV} (h : EvT prog K f d test σ b σ₁) (h2 : EvE prog K f d (match b with | true => body | false => orelse) σ₁ x σ₂) : EvE prog K f d (.IfExp test body orelse pos) σ x σ₂ := by
  intro c ok as os m s Q E R hq
  refine wpAny_IfExp (h c ok as os m s _ E R fun bs os₁ m₁ s₁ R₁ => ?_)
  have key := h2 c ok _ os₁ m₁ s₁ Q E R₁ fun bs₂ os₂ m₂ v s₂ rv R₂ => by
    rw [List.append_assoc] at rv R₂
    exact hq _ _ _ _ _ rv R₂
  cases b <;> exact key
theorem EvS.expr {e : Expr} {pos : Pos} {x : AV} (h : EvE prog K f d e σ x σ₁) (hs : ∀ env : Env, swapsWith e none pos.line env = pure false) : EvS prog K f d (.Expr e pos) σ .next σ₁ := by
  intro c ok as os m s Q E R hq
  exact wpAny_Expr_any (h c ok as os m s _ E R fun bs os₁ m₁ v s₁ rv R₁ => hq _ _ _ _ _ rfl R₁) (by unfold interactive; rw [ok.kind']; rfl) (hs _)
theorem EvB.nil : EvB prog K f d [] σ .next σ := by
  intro c ok as os m s Q E R hq
  exact wpAny_execs_nil (hq [] os m _ s rfl (by rw [app_nil]; exact R))
theorem EvB.cons {st : Stmt} {rest : List Stmt} {o : Out} (h1 : EvS prog K f d st σ .next σ₁) (h2 : EvB prog K f d rest σ₁ o σ₂) : EvB prog K f d (st :: rest) σ o σ₂ := by
  intro c ok as os m s Q E R hq
  refine wpAny_execs_cons (h1 c ok as os m s _ E R fun bs os₁ m₁ v s₁ rv R₁ => ?_)
  obtain rfl : v = .next := rv
  exact h2 c ok _ os₁ m₁ s₁ Q E R₁ fun bs₂ os₂ m₂ v s₂ rv R₂ => by
    rw [List.append_assoc] at rv R₂
    exact hq _ _ _ _ _ rv R₂
theorem EvB.stop {st : Stmt} {rest : List Stmt} {o : Out} (h1 : EvS prog K f d st σ o σ₁) (hn : o ≠ .next) : EvB prog K f d (st :: rest) σ o σ₁ := by
  intro c ok as os m s Q E R hq
  refine wpAny_execs_cons (h1 c ok as os m s _ E R fun bs os₁ m₁ v s₁ rv R₁ => ?_)
  have := hq bs os₁ m₁ v s₁ rv R₁
  cases o with
  | next => exact absurd rfl hn
  | brk => cases (show v = .brk from rv); exact this
  | cont => cases (show v = .cont from rv); exact this
  | ret x => obtain ⟨u, e, _⟩ := (show ∃ u, v = .ret u ∧ RV (as ++ bs) x u from rv); subst e; exact this
theorem EvS.pass {pos : Pos} : EvS prog K f d (.Pass pos) σ .next σ := by
  intro c ok as os m s Q E R hq
  exact wpAny_Pass (hq [] os m _ s rfl (by rw [app_nil]; exact R))
theorem EvS.cont {pos : Pos} : EvS prog K f d (.Continue pos) σ .cont σ := by
  intro c ok as os m s Q E R hq
  exact wpAny_Continue (hq [] os m _ s rfl (by rw [app_nil]; exact R))
theorem EvS.ret {e : Expr} {pos : Pos} {x : AV} (h : EvE prog K f d e σ x σ₁) : EvS prog K f d (.Return (some e) pos) σ (.ret x) σ₁ := by
  intro c ok as os m s Q E R hq
  exact wpAny_Return_some (h c ok as os m s _ E R fun bs os₁ m₁ v s₁ rv R₁ => hq _ _ _ _ _ ⟨v, rfl, rv⟩ R₁)
/-- stores of names -/
theorem EvS.assignL {x : Str} {pos' pos : Pos} {value : Expr} {av : AV} {l : List (Str × Option AV)} (hf : f.fn = true) (h : EvE prog K f d value σ av σ₁) (e : setLoc x av σ₁.locs = some l) (hk : look x f.cs.names = some .local)
    (hs : ∀ env : Env, swapsWith value (some (.Name x pos')) pos.line env = pure false) : EvS prog K f d (.Assign [.Name x pos'] value pos) σ .next { σ₁ with locs := l } := by
  intro c ok as os m s Q E R hq
  refine wpAny_Assign_Name (h c ok as os m s _ E R fun bs os₁ m₁ v s₁ rv R₁ => ?_) (hs _)
  exact store_local hf ok R₁ rv e hk fun m' s' R' => hq _ _ _ _ _ rfl R'
theorem EvS.assignC {x : Str} {pos' pos : Pos} {value : Expr} {av : AV} {i : Nat} {u : Option AV} (h : EvE prog K f d value σ av σ₁) (hl : look x σ₁.cells = some i) (ho : σ₁.objs[i]? = some (.cell u)) (hk : look x f.cs.names = some .cell)
    (hs : ∀ env : Env, env.kindOf x = some .cell → swapsWith value (some (.Name x pos')) pos.line env = pure false) : EvS prog K f d (.Assign [.Name x pos'] value pos) σ .next { σ₁ with objs := σ₁.objs.set i (.cell (some av)) } := by
  intro c ok as os m s Q E R hq
  refine wpAny_Assign_Name (h c ok as os m s _ E R fun bs os₁ m₁ v s₁ rv R₁ => ?_) (hs _ (ok.kindOf hk))
  exact store_cell ok R₁ rv hl ho hk fun os' s' R' => hq _ _ _ _ _ rfl R'
theorem EvS.augL {x : Str} {pos' pos : Pos} {op : Operator} {value : Expr} {old v new : AV} {l : List (Str × Option AV)} {gs : List Prop} (hf : f.fn = true) (h0 : look x σ.locs = some (some old)) (h : EvE prog K f d value σ v σ₁) (ho : opV op old v = some (new, gs)) (hg : ∀ p ∈ gs, p) (e : setLoc x new σ₁.locs = some l) (hk : look x f.cs.names = some .local) :
    EvS prog K f d (.AugAssign (.Name x pos') op value pos) σ .next { σ₁ with locs := l } := by
  intro c ok as os m s Q E R hq
  obtain ⟨u, hu, ru⟩ := R.locs x old (look_mem h0)
  refine wpAny_AugAssign_Name (wpAny_loadName_local ok.kind' (ok.kindOf hk) (ok.ns R) hu (h c ok as os m s _ E R fun bs os₁ m₁ b s₁ rb R₁ => ?_))
  refine opV_inplace ho hg c.w c.A (as ++ bs) u b s₁ _ E ru.up rb fun r t rr => ?_
  exact store_local hf ok (R₁.toks t) rr e hk fun m' s' R' => hq _ _ _ _ _ rfl R'
end
end Mine
/-! text M6 -/
open PySem PySem.W PyProof.Rows PySem.Spec PySem.Calls
set_option Elab.async false
set_option maxRecDepth 100000
namespace Mine
noncomputable def notSlice : Expr → Bool
  | .Slice .. => false
  | _ => true
theorem subscripted_plain {slice : Expr} {o i : Value} (h : notSlice slice = true) : subscripted slice false o i = operate [o, i] (getItem o i) := by
  cases slice <;> first | rfl | exact nb_ h
theorem listOf_isList {h : Heap} {a : Addr} {vs : Array Value} {n : Nat} (e : h.get? a = some (listOf vs n)) : h.IsList a vs := ⟨_, e, rfl, n, rfl⟩
theorem RVs.get {as : List Addr} : ∀ {xs : List AV} {vs : List Value}, RVs as xs vs → ∀ (i : Nat) x, xs[i]? = some x → ∃ v, vs[i]? = some v ∧ RV as x v
  | _, _, .nil, i, x, h => by simp at h
  | _, _, .cons r rs, 0, x, h => by simp at h; subst h; exact ⟨_, rfl, r⟩
  | _, _, .cons r rs, i + 1, x, h => by
    obtain ⟨v, h1, h2⟩ := rs.get i x (by simpa using h)
    exact ⟨v, by simpa using h1, h2⟩
theorem RVs.set {as : List Addr} {x : AV} {v : Value} (r : RV as x v) {xs : List AV} {vs : List Value} (rs : RVs as xs vs) : ∀ i : Nat, RVs as (xs.set i x) (vs.set i v) := by
  induction rs with
  | nil => intro i; simp; exact .nil
  | cons r' rs ih =>
    intro i
    cases i with
    | zero => exact .cons r rs
    | succ i => exact .cons r' (ih i)
theorem IntsAre.set {x : Int} {t : Tok} {vs : List Value} {xs : List Int} (rs : IntsAre vs xs) : ∀ i : Nat, IntsAre (vs.set i (.int x t)) (xs.set i x) := by
  induction rs with
  | nil => intro i; simp; exact .nil
  | cons n u rs ih =>
    intro i
    cases i with
    | zero => exact .cons _ _ rs
    | succ i => exact .cons n u (ih i)
/-- a place in a list -/
noncomputable def InB (n k : Int) : Prop := 0 ≤ k ∧ k < n ∧ k < 2 ^ 63
/-- the ints of a list of which all is an int -/
noncomputable def allI : List AV → Option (List Int)
  | [] => some []
  | x :: r => match x.i? with
    | some i => match allI r with
      | some l => some (i :: l)
      | none => none
    | none => none
theorem allI_of {as : List Addr} {xs : List AV} {vs : List Value} (rs : RVs as xs vs) : ∀ {is : List Int}, allI xs = some is → IntsAre vs is := by
  induction rs with
  | nil => intro is h; cases h; exact .nil
  | @cons x xs v vs r rs ih =>
    intro is h
    unfold allI at h
    cases e : x.i? with
    | none => rw [e] at h; first | exact no_ h | cases h
    | some i =>
      rw [e] at h
      dsimp only at h
      cases e2 : allI xs with
      | none => rw [e2] at h; first | exact no_ h | cases h
      | some l =>
        rw [e2] at h
        cases h
        obtain ⟨t, rfl⟩ := r.int_of e
        exact .cons _ _ (ih e2)
/-- lists that K holds -/
inductive KL where
  | refs (l : List Addr)
  | nums (l : List Int)
noncomputable def numsOf : List Value → Option (List Int)
  | [] => some []
  | .int i _ :: r => match numsOf r with
    | some l => some (i :: l)
    | none => none
  | _ => none
theorem numsOf_of : ∀ {vs : List Value} {is : List Int}, numsOf vs = some is → IntsAre vs is
  | [], _, h => by cases h; exact .nil
  | v :: r, is, h => by
    cases v with
    | int i t =>
      unfold numsOf at h
      cases e : numsOf r with
      | none => rw [e] at h; first | exact no_ h | cases h
      | some l => rw [e] at h; cases h; exact .cons _ _ (numsOf_of e)
    | _ => first | exact no_ h | cases h
noncomputable def KL.Ok (K : Params → Frag) (a : Addr) : KL → Prop
  | .refs l => ∀ P, (K P).lookup a = some (⟨.type "list", none, .seq (l.map Value.ref).toArray, #[]⟩ : Obj)
  | .nums l => ∃ vs, numsOf vs = some l ∧ ∀ P, (K P).lookup a = some (⟨.type "list", none, .seq vs.toArray, #[]⟩ : Obj)
section
variable {prog : Program} {K : Params → Frag} {f : Fx} {d : Nat} {σ σ₁ σ₂ σ₃ : S}
theorem EvE.subAt {value slice : Expr} {pos : Pos} {x y z : AV} (h1 : EvE prog K f d value σ x σ₁) (h2 : EvE prog K f d slice σ₁ y σ₂)
    (ht : ∀ (c : Cx) (as : List Addr) (os : List Obj) (m : Str → Option Value) (s : Shared) (Q E : Value → Shared → Prop) (a b : Value), Ok K f d c → At c as os m σ₂ s → RV as x a → RV as y b → (∀ v t, RV as z v → Q v { s with toks := t }) → wpAny (model prog c.w) c.A (subscriptTail value slice a b) Q E s) :
    EvE prog K f d (.Subscript value slice pos) σ z σ₂ := by
  intro c ok as os m s Q E R hq
  refine Subscript_ (h1 c ok as os m s _ E R fun bs os₁ m₁ a s₁ ra R₁ => ?_)
  refine h2 c ok _ os₁ m₁ s₁ _ E R₁ fun bs₂ os₂ m₂ b s₂ rb R₂ => ?_
  refine ht c _ os₂ m₂ s₂ Q E a b ok R₂ ra.up rb fun v t rv => ?_
  rw [List.append_assoc] at rv R₂
  exact hq _ _ _ _ _ rv (R₂.toks t)
theorem EvE.subI {value slice : Expr} {pos : Pos} {y : AV} {i : Nat} {xs : List Int} {k : Int} (h1 : EvE prog K f d value σ (.obj i) σ₁) (h2 : EvE prog K f d slice σ₁ y σ₂) (hn : notSlice slice = true) (hy : y.i? = some k) (hi : σ₂.objs[i]? = some (.il xs))
    (hg : InB xs.length k) : EvE prog K f d (.Subscript value slice pos) σ (.int (xs.getD k.toNat 0)) σ₂ := by
  refine .subAt h1 h2 fun c as os m s Q E a b ok R ra rb hq => ?_
  obtain ⟨q, o, g1, _, _, g2, vs, n, rfl, g3⟩ := R.obj hi
  obtain ⟨q', g1', rfl⟩ := ra
  rw [g1] at g1'; cases g1'
  obtain ⟨t, rfl⟩ := rb.int_of hy
  refine item_anyK (vs := vs.toList) (listOf_isList (n := n) (by simpa using g2)) g3 hg.1 hg.2.1 hg.2.2 (fun t => ?_) (subscripted_plain hn)
  exact hq _ s.toks ⟨t, rfl⟩
theorem RV.known {as : List Addr} {i : Int} {v : Value} (r : RV as (.int i) v) : RV as (.cint i) v := r
theorem EvE.toC {e : Expr} {i j : Int} (h : EvE prog K f d e σ (.int i) σ₁) (q : i = j) : EvE prog K f d e σ (.cint j) σ₁ := by subst q; exact h
theorem EvE.subL {value slice : Expr} {pos : Pos} {y z : AV} {i : Nat} {xs : List AV} {k : Int} (h1 : EvE prog K f d value σ (.obj i) σ₁) (h2 : EvE prog K f d slice σ₁ y σ₂) (hn : notSlice slice = true) (hy : y.i? = some k) (hi : σ₂.objs[i]? = some (.list xs))
    (hz : xs[k.toNat]? = some z) (hg : ∀ p ∈ [0 ≤ k, k < 2 ^ 63], p) : EvE prog K f d (.Subscript value slice pos) σ z σ₂ := by
  refine .subAt h1 h2 fun c as os m s Q E a b ok R ra rb hq => ?_
  obtain ⟨q, o, g1, _, _, g2, vs, n, rfl, g3⟩ := R.obj hi
  obtain ⟨q', g1', rfl⟩ := ra
  rw [g1] at g1'; cases g1'
  obtain ⟨t, rfl⟩ := rb.int_of hy
  obtain ⟨v, e, rv⟩ := g3.get _ _ hz
  have hl := listOf_isList (n := n) g2
  exact tail_any hl.typeIs slot_list_getitem.lookup (wpAny_getItem_list hl (hg _ (.head _)) (hg _ (.tail _ (.head _))) (by rw [← Array.getElem?_toList]; exact e) (hq _ s.toks rv)) (subscripted_plain hn)
theorem EvE.subLI {value slice : Expr} {pos : Pos} {y : AV} {i : Nat} {xs : List AV} {is : List Int} {k : Int} (h1 : EvE prog K f d value σ (.obj i) σ₁) (h2 : EvE prog K f d slice σ₁ y σ₂) (hn : notSlice slice = true) (hy : y.i? = some k) (hi : σ₂.objs[i]? = some (.list xs)) (ha : allI xs = some is)
    (hg : InB is.length k) : EvE prog K f d (.Subscript value slice pos) σ (.int (is.getD k.toNat 0)) σ₂ := by
  refine .subAt h1 h2 fun c as os m s Q E a b ok R ra rb hq => ?_
  obtain ⟨q, o, g1, _, _, g2, vs, n, rfl, g3⟩ := R.obj hi
  obtain ⟨q', g1', rfl⟩ := ra
  rw [g1] at g1'; cases g1'
  obtain ⟨t, rfl⟩ := rb.int_of hy
  refine item_anyK (vs := vs.toList) (listOf_isList (n := n) (by simpa using g2)) (allI_of g3 ha) hg.1 hg.2.1 hg.2.2 (fun t => ?_) (subscripted_plain hn)
  exact hq _ s.toks ⟨t, rfl⟩
theorem EvE.subKN {value slice : Expr} {pos : Pos} {y : AV} {a : Addr} {xs : List Int} {k : Int} (h1 : EvE prog K f d value σ (.val (.ref a)) σ₁) (h2 : EvE prog K f d slice σ₁ y σ₂) (hn : notSlice slice = true) (hy : y.i? = some k) (hi : KL.Ok K a (.nums xs))
    (hg : InB xs.length k) : EvE prog K f d (.Subscript value slice pos) σ (.int (xs.getD k.toNat 0)) σ₂ := by
  refine .subAt h1 h2 fun c as os m s Q E a' b ok R ra rb hq => ?_
  obtain ⟨vs, e, l⟩ := hi
  obtain rfl : a' = .ref a := ra
  obtain ⟨t, rfl⟩ := rb.int_of hy
  refine item_anyK (vs := vs) ⟨_, R.fr.keep _ _ (ok.kin _ _ (l _)), rfl, _, rfl⟩ (numsOf_of e) hg.1 hg.2.1 hg.2.2 (fun t => ?_) (subscripted_plain hn)
  exact hq _ s.toks ⟨t, rfl⟩
theorem EvE.subKR {value slice : Expr} {pos : Pos} {y : AV} {a b : Addr} {xs : List Addr} {k : Int} (h1 : EvE prog K f d value σ (.val (.ref a)) σ₁) (h2 : EvE prog K f d slice σ₁ y σ₂) (hn : notSlice slice = true) (hy : y.i? = some k) (hi : KL.Ok K a (.refs xs))
    (hz : xs[k.toNat]? = some b) (hg : ∀ p ∈ [0 ≤ k, k < 2 ^ 63], p) : EvE prog K f d (.Subscript value slice pos) σ (.val (.ref b)) σ₂ := by
  refine .subAt h1 h2 fun c as os m s Q E a' b' ok R ra rb hq => ?_
  obtain rfl : a' = .ref a := ra
  obtain ⟨t, rfl⟩ := rb.int_of hy
  have hl : s.heap.IsList a (xs.map Value.ref).toArray := ⟨_, R.fr.keep _ _ (ok.kin _ _ (hi _)), rfl, _, rfl⟩
  exact tail_any hl.typeIs slot_list_getitem.lookup (wpAny_getItem_list hl (hg _ (.head _)) (hg _ (.tail _ (.head _))) (by simp [hz]) (hq _ s.toks rfl)) (subscripted_plain hn)
/-- stores into lists -/
theorem store_item {c : Cx} {v : Value} {as : List Addr} {os : List Obj} {m : Str → Option Value} {s : Shared} {Q : Unit → Shared → Prop} {E : Value → Shared → Prop} {i : Nat} {a : Addr} {ao : AO} {k : Int} {t : Tok} {its : Array Value} {n : Nat} (R : At c as os m σ s) (ha : as[i]? = some a) (ho : os[i]? = some (listOf its n))
    (h0 : 0 ≤ k) (h1 : k < its.size) (h2 : k < 2 ^ 63) (r : RO c.w.params as ao (listOf (its.setIfInBounds k.toNat v) n))
    (h : ∀ os' s', At c as os' m { σ with objs := σ.objs.set i ao } s' → Q () s') : wpAny (model prog c.w) c.A (setItem (.ref a) (.int k t) v) Q E s := by
  have U := upd_zip (rest := c.rest) (listOf (its.setIfInBounds k.toNat v) n) ha ho R.nodup
  obtain ⟨pre, post, e1, e2, d1, d2⟩ := U.split
  have N := R.news
  rw [e1] at N
  have hm := N (a, listOf its n) (List.mem_append.mpr (.inr (.head _)))
  refine ki_setAt hm.1 h0 h2 h1 (h (os.set i (listOf (its.setIfInBounds k.toNat v) n)) _ (R.upd rfl rfl (R.fr.change (Heap.SameBut.update ..) hm.2.1 hm.2.2) ?_ r))
  rw [e2]
  refine ki_turn _ N d1 d2 rfl ?_
  rw [if_pos (by simp)]
theorem EvS.setI {o i : Expr} {pos' pos : Pos} {value : Expr} {x y : AV} {j : Nat} {xs : List Int} {k z : Int} (h : EvE prog K f d value σ x σ₁) (h1 : EvE prog K f d o σ₁ (.obj j) σ₂) (h2 : EvE prog K f d i σ₂ y σ₃) (hx : x.i? = some z) (hy : y.i? = some k) (hj : σ₃.objs[j]? = some (.il xs))
    (hg : InB xs.length k) (hs : ∀ env : Env, swapsWith value (some (.Subscript o i pos')) pos.line env = pure false) :
    EvS prog K f d (.Assign [.Subscript o i pos'] value pos) σ .next { σ₃ with objs := σ₃.objs.set j (.il (xs.set k.toNat z)) } := by
  intro c ok as os m s Q E R hq
  refine wpAny_Assign_Subscript (h c ok as os m s _ E R fun bs os₁ m₁ v s₁ rv R₁ => ?_) (hs _)
  refine h1 c ok _ os₁ m₁ s₁ _ E R₁ fun bs₂ os₂ m₂ w s₂ rw R₂ => ?_
  refine h2 c ok _ os₂ m₂ s₂ _ E R₂ fun bs₃ os₃ m₃ u s₃ ru R₃ => ?_
  obtain ⟨t, rfl⟩ := rv.int_of hx
  obtain ⟨t', rfl⟩ := ru.int_of hy
  obtain ⟨a, ha, rfl⟩ := rw
  obtain ⟨a', ob, g1, g2, _, _, vs, n, rfl, g3⟩ := R₃.obj hj
  have g1' := getElem?_app (r := bs₃) ha
  rw [g1'] at g1
  cases g1
  have hl : vs.size = xs.length := by rw [← g3.length]; simp
  refine store_item (ao := .il (xs.set k.toNat z)) R₃ g1' g2 hg.1 (by rw [hl]; exact hg.2.1) hg.2.2 ⟨_, n, rfl, ?_⟩ fun os' s' R' => ?_
  · rw [Array.toList_setIfInBounds]
    exact IntsAre.set g3 _
  · rw [List.append_assoc, List.append_assoc] at R'
    exact hq _ _ _ _ _ rfl R'
end
end Mine
/-! text M7 -/
open PySem PySem.W PyProof.Rows PySem.Spec PySem.Calls
set_option Elab.async false
set_option maxRecDepth 100000
namespace Mine
noncomputable def allPlain : List Expr → Bool
  | [] => true
  | e :: r => match notStar e with
    | true => allPlain r
    | false => false
theorem allPlain_of : ∀ {es : List Expr}, allPlain es = true → ∀ e ∈ es, notStar e = true
  | [], _, _, h => nomatch h
  | e :: r, h, e', he => by
    unfold allPlain at h
    cases q : notStar e with
    | false => rw [q] at h; first | exact no_ h | cases h
    | true =>
      rw [q] at h
      rcases List.mem_cons.mp he with rfl | he
      · exact q
      · exact allPlain_of h e' he
theorem starEach_len (env : Env) (pos : Pos) : ∀ {es : List Expr}, (∀ e ∈ es, notStar e = true) → (backTo pos (starEach es env)).all (fun x => !x.1) = true
  | [], _ => rfl
  | e :: r, h => by
    rw [starEach_plain (h e (.head _))]
    show ((!false) && (backTo pos (starEach r env)).all (fun x => !x.1)) = true
    rw [starEach_len env pos fun e' he => h e' (.tail _ he)]
    rfl
theorem meth_eq {n name : Str} {np apos pos : Pos} {es : List Expr} {env : Env} (hs : ∀ e ∈ es, notStar e = true) (hl : es.length < 29) (hline : (apos.endLine == pos.line) = true) :
    eval (.Call (.Attribute (.Name n np) name apos) es [] pos) env = (do
      let ov ← eval (.Name n np) env
      standAt apos.atName
      let (f, first) ← holding [ov] (getMethod ov name (do return (← importBound (.Name n np) env).getD true))
      callWith pos f first (backTo pos (starEach es env)) []) := by
  have hform : methodCallForm (es.length + ([] : List Keyword).length) (backTo pos (starEach es env)) (backToKw pos (keywordEach [] env)) = true := by
    unfold methodCallForm
    rw [starEach_len env pos hs]
    show (true && true && decide (es.length + 0 + 0 < 30)) = true
    simp
    omega
  have hpos : methodCallPos true (.Name n np) env apos pos = pure pos := by unfold methodCallPos; simp [hline]
  rw [PySem.arm_eval_Call]
  show (do
    let ov ← eval (.Name n np) env
    standAt apos.atName
    methodCall (.Name n np) name apos pos env ov (es.length + ([] : List Keyword).length) (backTo pos (starEach es env)) (backToKw pos (keywordEach [] env))) = _
  congr 1
  funext ov
  congr 1
  funext _
  unfold methodCall
  rw [hform]
  congr 1
  funext p
  rw [hpos]
  rfl
noncomputable def notComp : Expr → Bool
  | .ListComp .. => false
  | .SetComp .. => false
  | .DictComp .. => false
  | _ => true
theorem swaps_plain {e : Expr} {t : Option Expr} {n : Nat} {env : Env} (h : notComp e = true) : swapsWith e t n env = pure false := by
  cases e <;> first | rfl | exact nb_ h
end Mine
/-! text M8 -/
open PySem PySem.W PyProof.Rows PySem.Spec PySem.Calls
set_option Elab.async false
set_option maxRecDepth 100000
namespace Mine
inductive Ora where
  | b (x : Bool)
  | n (i : Nat)
  | k (i : Int)
  | e (x : AV) (σ : S)
  | s (x : Out) (σ : S)
abbrev Orc := List Ora
abbrev R (α : Type) := Option (α × S × Orc × List Prop)
noncomputable def opt {α β : Type} (x : Option α) (k : α → Option β) : Option β := match x with
  | none => none
  | some a => k a
noncomputable def tst {β : Type} (b : Bool) (k : Option β) : Option β := match b with
  | true => k
  | false => none
noncomputable def bnd {α β : Type} (m : R α) (k : α → S → Orc → R β) : R β := match m with
  | none => none
  | some (a, σ, o, g) => match k a σ o with
    | none => none
    | some (b, σ', o', g') => some (b, σ', o', g ++ g')
noncomputable def grd {β : Type} (g : List Prop) (m : R β) : R β := match m with
  | none => none
  | some (b, σ', o', g') => some (b, σ', o', g ++ g')
noncomputable def nth {α : Type} : List α → Nat → Option α
  | [], _ => none
  | a :: _, 0 => some a
  | _ :: r, n + 1 => nth r n
theorem nth_eq {α : Type} : ∀ {l : List α} {n : Nat}, nth l n = l[n]?
  | [], _ => by simp [nth]
  | a :: r, 0 => by simp [nth]
  | a :: r, n + 1 => by simp only [nth, List.getElem?_cons_succ]; exact nth_eq
noncomputable def upd {α : Type} : List α → Nat → α → List α
  | [], _, _ => []
  | _ :: r, 0, x => x :: r
  | a :: r, n + 1, x => a :: upd r n x
theorem upd_eq {α : Type} : ∀ {l : List α} {n : Nat} {x : α}, upd l n x = l.set n x
  | [], _, _ => by simp [upd]
  | a :: r, 0, _ => by simp [upd]
  | a :: r, n + 1, _ => by simp only [upd, List.set_cons_succ, upd_eq]
inductive OptI {α β : Type} (x : Option α) (k : α → Option β) (c : β) : Prop
  | mk (a : α) (h1 : x = some a) (h2 : k a = some c) : OptI x k c
theorem opt_some {α β : Type} {x : Option α} {k : α → Option β} {c : β} (h : opt x k = some c) : OptI x k c := by
  cases x with
  | none => first | exact no_ h | cases h
  | some a => exact ⟨a, rfl, h⟩
theorem tst_some {β : Type} {b : Bool} {k : Option β} {c : β} (h : tst b k = some c) : b = true ∧ k = some c := by
  cases b with
  | false => first | exact no_ h | cases h
  | true => exact ⟨rfl, h⟩
inductive BndI {α β : Type} (m : R α) (k : α → S → Orc → R β) (b : β) (σ' : S) (o' : Orc) (g : List Prop) : Prop
  | mk (a : α) (σ : S) (o : Orc) (g1 g2 : List Prop) (h1 : m = some (a, σ, o, g1)) (h2 : k a σ o = some (b, σ', o', g2)) (hg : (∀ p ∈ g, p) → (∀ p ∈ g1, p) ∧ ∀ p ∈ g2, p) : BndI m k b σ' o' g
theorem bnd_some {α β : Type} {m : R α} {k : α → S → Orc → R β} {b : β} {σ' : S} {o' : Orc} {g : List Prop} (h : bnd m k = some (b, σ', o', g)) : BndI m k b σ' o' g := by
  cases m with
  | none => first | exact no_ h | cases h
  | some q =>
    obtain ⟨a, σ, o, g1⟩ := q
    unfold bnd at h
    dsimp only at h
    cases e : k a σ o with
    | none => rw [e] at h; first | exact no_ h | cases h
    | some q =>
      obtain ⟨b', σ'', o'', g2⟩ := q
      rw [e] at h
      cases h
      exact ⟨a, σ, o, g1, g2, rfl, e, fun h => ⟨fun p hp => h p (List.mem_append_left _ hp), fun p hp => h p (List.mem_append_right _ hp)⟩⟩
theorem grd_some {β : Type} {m : R β} {b : β} {σ' : S} {o' : Orc} {g0 g : List Prop} (h : grd g0 m = some (b, σ', o', g)) : ∃ g2, m = some (b, σ', o', g2) ∧ ((∀ p ∈ g, p) → (∀ p ∈ g0, p) ∧ ∀ p ∈ g2, p) := by
  cases m with
  | none => first | exact no_ h | cases h
  | some q =>
    obtain ⟨b', σ'', o'', g2⟩ := q
    cases h
    exact ⟨g2, rfl, fun h => ⟨fun p hp => h p (List.mem_append_left _ hp), fun p hp => h p (List.mem_append_right _ hp)⟩⟩
structure Tab where
  C : Addr
  own : List Str
  nums : List (Str × Int)
  refs : List (Str × Addr)
  meths : List (Str × Addr)
  globs : List (Str × Value)
  blts : List (Str × Blt)
  fns : List Fn
  lists : List (Addr × KL)
structure TabOk (K : Params → Frag) (T : Tab) : Prop where
  own : ∀ x ∈ T.own, (∀ P, ownName (K P) T.C x = true) ∧ ∀ P, setName (K P) T.C x = true
  nums : ∀ p ∈ T.nums, ∃ t, ∀ P, clsName (K P) T.C p.1 (.int p.2 t) = true
  refs : ∀ p ∈ T.refs, ∀ P, clsName (K P) T.C p.1 (.ref p.2) = true
  meths : ∀ p ∈ T.meths, ∀ P, methName (K P) T.C p.1 p.2 = true
  globs : ∀ p ∈ T.globs, ∀ P, nsIn (K P) mainGlobals p.1 = some (some p.2)
  blts : ∀ p ∈ T.blts, (∀ P, nsIn (K P) mainGlobals p.1 = some none) ∧ bootBuiltins p.1 = some p.2.value
  fns : ∀ F ∈ T.fns, FnOk K F ∧ ∀ P, keepIn (K P) (.ref F.a) = true ∧ fnIn (K P) F.a = true
  lists : ∀ p ∈ T.lists, KL.Ok K p.1 p.2
  one : ∀ P, ((K P).lookup sysModules).isSome = true
noncomputable def has (x : Str) : List Str → Bool
  | [] => false
  | y :: r => match Fast.sEq y x with
    | true => true
    | false => has x r
theorem has_mem {x : Str} : ∀ {l : List Str}, has x l = true → x ∈ l
  | [], h => by cases h
  | y :: r, h => by
    unfold has at h
    cases e : Fast.sEq y x with
    | true => have := Fast.sEq_iff.mp e; subst this; exact .head _
    | false => rw [e] at h; exact .tail _ (has_mem h)
noncomputable def atA {α : Type} (a : Addr) : List (Addr × α) → Option α
  | [] => none
  | (b, v) :: r => match Nat.beq b a with
    | true => some v
    | false => atA a r
theorem atA_mem {α : Type} {a : Addr} {v : α} : ∀ {l : List (Addr × α)}, atA a l = some v → (a, v) ∈ l
  | [], h => by cases h
  | (b, u) :: r, h => by
    unfold atA at h
    cases e : Nat.beq b a with
    | true => rw [e] at h; cases h; have := Nat.eq_of_beq_eq_true e; subst this; exact .head _
    | false => rw [e] at h; exact .tail _ (atA_mem h)
noncomputable def fnAt (a : Addr) : List Fn → Option Fn
  | [] => none
  | F :: r => match Nat.beq F.a a with
    | true => some F
    | false => fnAt a r
theorem fnAt_mem {a : Addr} {F : Fn} : ∀ {l : List Fn}, fnAt a l = some F → F ∈ l ∧ F.a = a
  | [], h => by cases h
  | G :: r, h => by
    unfold fnAt at h
    cases e : Nat.beq G.a a with
    | true => rw [e] at h; cases h; exact ⟨.head _, Nat.eq_of_beq_eq_true e⟩
    | false => rw [e] at h; exact ⟨.tail _ (fnAt_mem h).1, (fnAt_mem h).2⟩
/-- what is evaluated at one level of the depth -/
structure Ev where
  e : Fx → Expr → S → Orc → R AV
  t : Fx → Expr → S → Orc → R Bool
  b : Fx → List Stmt → S → Orc → R Out
  c : Addr → List AV → List AO → Orc → Option (AV × List AO × Orc × List Prop)
structure Sound (prog : Program) (K : Params → Frag) (n : Nat) (r : Ev) : Prop where
  e : ∀ {f e σ o x σ' o' g}, r.e f e σ o = some (x, σ', o', g) → (∀ p ∈ g, p) → EvE prog K f n e σ x σ'
  t : ∀ {f e σ o x σ' o' g}, r.t f e σ o = some (x, σ', o', g) → (∀ p ∈ g, p) → EvT prog K f n e σ x σ'
  b : ∀ {f e σ o x σ' o' g}, r.b f e σ o = some (x, σ', o', g) → (∀ p ∈ g, p) → EvB prog K f n e σ x σ'
  c : ∀ {fa args objs o x objs' o' g}, r.c fa args objs o = some (x, objs', o', g) → (∀ p ∈ g, p) → CallT prog K n fa args objs x objs' ∧ ∀ P, keepIn (K P) (.ref fa) = true ∧ fnIn (K P) fa = true
section
variable {prog : Program} {K : Params → Frag} {T : Tab} {n : Nat} {r : Ev} {f : Fx} {σ : S} {o : Orc}
theorem EvE.more {d d' : Nat} {e : Expr} {x : AV} {σ' : S} (h : EvE prog K f d e σ x σ') (le : d ≤ d') : EvE prog K f d' e σ x σ' := fun c ok => h c (ok.weak le)
theorem EvT.more {d d' : Nat} {e : Expr} {x : Bool} {σ' : S} (h : EvT prog K f d e σ x σ') (le : d ≤ d') : EvT prog K f d' e σ x σ' := fun c ok => h c (ok.weak le)
theorem EvB.more {d d' : Nat} {e : List Stmt} {x : Out} {σ' : S} (h : EvB prog K f d e σ x σ') (le : d ≤ d') : EvB prog K f d' e σ x σ' := fun c ok => h c (ok.weak le)
theorem EvS.more {d d' : Nat} {e : Stmt} {x : Out} {σ' : S} (h : EvS prog K f d e σ x σ') (le : d ≤ d') : EvS prog K f d' e σ x σ' := fun c ok => h c (ok.weak le)
theorem CallT.more {d d' : Nat} {fa : Addr} {args : List AV} {objs objs' : List AO} {x : AV} (h : CallT prog K d fa args objs x objs') (le : d ≤ d') : CallT prog K d' fa args objs x objs' := fun f c σ hf ok => h f c σ hf (ok.weak (by omega))
theorem Sound.e' (H : Sound prog K n r) {e x σ' o' g} (h : r.e f e σ o = some (x, σ', o', g)) (hg : ∀ p ∈ g, p) : EvE prog K f (n + 1) e σ x σ' := (H.e h hg).more (Nat.le_succ _)
theorem Sound.t' (H : Sound prog K n r) {e x σ' o' g} (h : r.t f e σ o = some (x, σ', o', g)) (hg : ∀ p ∈ g, p) : EvT prog K f (n + 1) e σ x σ' := (H.t h hg).more (Nat.le_succ _)
theorem Sound.b' (H : Sound prog K n r) {e x σ' o' g} (h : r.b f e σ o = some (x, σ', o', g)) (hg : ∀ p ∈ g, p) : EvB prog K f (n + 1) e σ x σ' := (H.b h hg).more (Nat.le_succ _)

/-! names, constants -/
noncomputable def ret {α : Type} (x : α) (σ : S) (o : Orc) : R α := some (x, σ, o, [])
theorem EvE.cstr {d : Nat} {i : Str} {k : Nat} {pos : Pos} : EvE prog K f d (.Constant (.str i) k pos) σ (.str i) σ := by
  intro c ok as os m s Q E R h
  refine wpAny_Constant_str (h [] os m _ _ ?_ ?_)
  · exact ⟨_, rfl⟩
  · rw [app_nil]; exact R.toks _
theorem EvE.cbool {d : Nat} {i : Bool} {k : Nat} {pos : Pos} : EvE prog K f d (.Constant (.bool i) k pos) σ (.cb i) σ := by
  intro c ok as os m s Q E R h
  exact wpAny_Constant_bool (h [] os m _ _ rfl (by rw [app_nil]; exact R))
noncomputable def stConst (c : Const) (σ : S) (o : Orc) : R AV := match c with
  | .int i => ret (.cint i) σ o
  | .none => ret (.val .none) σ o
  | .str x => ret (.str x) σ o
  | .bool b => ret (.cb b) σ o
  | _ => none
theorem finE {d : Nat} {e : Expr} {x v : AV} {σ₁ σ' : S} {o₁ o' : Orc} {g₁ g : List Prop} (h : (some (x, σ₁, o₁, g₁) : R AV) = some (v, σ', o', g)) (E : EvE prog K f d e σ x σ₁) : EvE prog K f d e σ v σ' := by cases h; exact E
theorem finS {d : Nat} {e : Stmt} {x v : Out} {σ₁ σ' : S} {o₁ o' : Orc} {g₁ g : List Prop} (h : (some (x, σ₁, o₁, g₁) : R Out) = some (v, σ', o', g)) (E : EvS prog K f d e σ x σ₁) : EvS prog K f d e σ v σ' := by cases h; exact E
theorem finEg {d : Nat} {e : Expr} {x v : AV} {σ₁ σ' : S} {o₁ o' : Orc} {g₁ g : List Prop} (h : (some (x, σ₁, o₁, g₁) : R AV) = some (v, σ', o', g)) (hg : ∀ p ∈ g, p) (E : (∀ p ∈ g₁, p) → EvE prog K f d e σ x σ₁) : EvE prog K f d e σ v σ' := by cases h; exact E hg
theorem finSg {d : Nat} {e : Stmt} {x v : Out} {σ₁ σ' : S} {o₁ o' : Orc} {g₁ g : List Prop} (h : (some (x, σ₁, o₁, g₁) : R Out) = some (v, σ', o', g)) (hg : ∀ p ∈ g, p) (E : (∀ p ∈ g₁, p) → EvS prog K f d e σ x σ₁) : EvS prog K f d e σ v σ' := by cases h; exact E hg
theorem stConst_ok {c : Const} {k : Nat} {pos : Pos} {x : AV} {σ' : S} {o' : Orc} {g : List Prop} (h : stConst c σ o = some (x, σ', o', g)) : EvE prog K f n (.Constant c k pos) σ x σ' := by
  cases c <;> first | exact no_ h | (cases h; done) | skip
  · exact finE h (.cnone)
  · exact finE h (.cbool)
  · exact finE h (.cint)
  · exact finE h (.cstr)
noncomputable def stName (T : Tab) (f : Fx) (x : Str) (σ : S) (o : Orc) : R AV := tst (nd x) (opt (look x f.cs.names) fun k => match k with
  | .local => opt (look x σ.locs) fun v => match v with
    | some av => ret av σ o
    | none => none
  | .cell => opt (look x σ.cells) fun i => opt (nth σ.objs i) fun ao => match ao with
    | .cell (some av) => ret av σ o
    | _ => none
  | .free => opt (look x σ.cells) fun i => opt (nth σ.objs i) fun ao => match ao with
    | .cell (some av) => ret av σ o
    | _ => none
  | .globalImplicit => match look x T.globs with
    | some v => ret (.val v) σ o
    | none => opt (look x T.blts) fun v => ret (.blt v) σ o
  | _ => none)
theorem stName_ok (H : TabOk K T) {x : Str} {pos : Pos} {v : AV} {σ' : S} {o' : Orc} {g : List Prop} (h : stName T f x σ o = some (v, σ', o', g)) : EvE prog K f n (.Name x pos) σ v σ' := by
  replace h := tst_some h
  obtain ⟨hd, h⟩ := h
  replace h := opt_some h
  obtain ⟨k, hk, h⟩ := h
  cases k <;> first | exact no_ h | (cases h; done) | skip
  · replace h := opt_some h
    obtain ⟨u, hl, h⟩ := h
    cases u with
    | none => first | exact no_ h | cases h
    | some av => exact finE h (.loc hl hk hd)
  · replace h := opt_some h
    obtain ⟨i, hl, h⟩ := h
    replace h := opt_some h
    obtain ⟨ao, ho, h⟩ := h
    rw [nth_eq] at ho
    cases ao <;> first | exact no_ h | (cases h; done) | skip
    rename_i u
    cases u with
    | none => first | exact no_ h | cases h
    | some av => exact finE h (.cellN hl ho hk (.inl rfl) hd)
  · replace h := opt_some h
    obtain ⟨i, hl, h⟩ := h
    replace h := opt_some h
    obtain ⟨ao, ho, h⟩ := h
    rw [nth_eq] at ho
    cases ao <;> first | exact no_ h | (cases h; done) | skip
    rename_i u
    cases u with
    | none => first | exact no_ h | cases h
    | some av => exact finE h (.cellN hl ho hk (.inr rfl) hd)
  · dsimp only at h
    cases e : look x T.globs with
    | some u => rw [e] at h; exact finE h (.glob (H.globs _ (look_mem e)) hk hd)
    | none =>
      rw [e] at h
      replace h := opt_some h
      obtain ⟨u, hl, h⟩ := h
      obtain ⟨h1, h2⟩ := H.blts _ (look_mem hl)
      exact finE h (.built h1 h2 hk hd)
/-! attributes of the class's instances -/
noncomputable def instAt (C : Addr) (σ : S) (i : Nat) : Option (Nat × List (Str × AV)) := opt (nth σ.objs i) fun ao => match ao with
  | .inst D j => tst (Nat.beq D C) (opt (nth σ.objs j) fun bo => match bo with
    | .attrs es => some (j, es)
    | _ => none)
  | _ => none
theorem instAt_of {C : Addr} {i j : Nat} {es : List (Str × AV)} (h : instAt C σ i = some (j, es)) : σ.objs[i]? = some (.inst C j) ∧ σ.objs[j]? = some (.attrs es) := by
  replace h := opt_some h
  obtain ⟨ao, h1, h⟩ := h
  rw [nth_eq] at h1
  cases ao <;> first | exact no_ h | (cases h; done) | skip
  replace h := tst_some h
  obtain ⟨h2, h⟩ := h
  replace h := opt_some h
  obtain ⟨bo, h3, h⟩ := h
  rw [nth_eq] at h3
  cases bo <;> first | exact no_ h | (cases h; done) | skip
  cases h
  have := Nat.eq_of_beq_eq_true h2
  subst this
  exact ⟨h1, h3⟩
noncomputable def objI : AV → Option Nat
  | .obj i => some i
  | _ => none
theorem objI_of {x : AV} {i : Nat} (h : objI x = some i) : x = .obj i := by cases x <;> first | exact no_ h | (cases h; done) | (cases h; rfl)
noncomputable def stAttr (T : Tab) (f : Fx) (y : Str) (x : Str) (σ : S) (o : Orc) : R AV := bnd (stName T f y σ o) fun v σ o => opt (objI v) fun i => opt (instAt T.C σ i) fun p => match look x p.2 with
  | some av => tst (hand av) (tst (has x T.own) (ret av σ o))
  | none => match look x T.nums with
    | some k => ret (.cint k) σ o
    | none => match look x T.meths with
      | some fa => ret (.obj σ.objs.length) { σ with objs := σ.objs ++ [.meth fa (.obj i)] } o
      | none => opt (look x T.refs) fun a => ret (.val (.ref a)) σ o
theorem stAttr_ok (H : TabOk K T) {y x : Str} {np pos : Pos} {v : AV} {σ' : S} {o' : Orc} {g : List Prop} (h : stAttr T f y x σ o = some (v, σ', o', g)) : EvE prog K f n (.Attribute (.Name y np) x pos) σ v σ' := by
  replace h := bnd_some h
  obtain ⟨u, σ₁, o₁, g1, g2, h1, h, _⟩ := h
  replace h := opt_some h
  obtain ⟨i, hi, h⟩ := h
  replace h := opt_some h
  obtain ⟨⟨j, es⟩, hj, h⟩ := h
  obtain ⟨ho, ha⟩ := instAt_of hj
  have hN := stName_ok (prog := prog) (n := n) (pos := np) H h1
  rw [objI_of hi] at hN
  dsimp only at h
  cases e : look x es with
  | some av =>
    rw [e] at h
    replace h := tst_some h
    obtain ⟨hh, h⟩ := h
    replace h := tst_some h
    obtain ⟨hw, h⟩ := h
    exact finE h (.attr hN ho ha (H.own _ (has_mem hw)).1 e hh)
  | none =>
    rw [e] at h
    dsimp only at h
    cases e1 : look x T.nums with
    | some k =>
      rw [e1] at h
      obtain ⟨t, ht⟩ := H.nums _ (look_mem e1)
      exact finE h (.clsAttr hN ho ha ht e fun as => ⟨t, rfl⟩)
    | none =>
      rw [e1] at h
      dsimp only at h
      cases e2 : look x T.meths with
      | some fa =>
        rw [e2] at h
        exact finE h (.bound hN ho ha (H.meths _ (look_mem e2)) e)
      | none =>
        rw [e2] at h
        replace h := opt_some h
        obtain ⟨a, e3, h⟩ := h
        exact finE h (.clsAttr hN ho ha (H.refs _ (look_mem e3)) e fun as => rfl)
/-! operations -/
noncomputable def stBin (r : Ev) (f : Fx) (op : Operator) (l e : Expr) (σ : S) (o : Orc) : R AV := bnd (r.e f l σ o) fun x σ o => bnd (r.e f e σ o) fun y σ o => opt (opV op x y) fun p => some (p.1, σ, o, p.2)
theorem stBin_ok (H : Sound prog K n r) {op : Operator} {l e : Expr} {pos : Pos} {v : AV} {σ' : S} {o' : Orc} {g : List Prop} (h : stBin r f op l e σ o = some (v, σ', o', g)) (hg : ∀ p ∈ g, p) : EvE prog K f (n + 1) (.BinOp l op e pos) σ v σ' := by
  replace h := bnd_some h
  obtain ⟨x, σ₁, o₁, g1, g2, h1, h, k1⟩ := h
  replace h := bnd_some h
  obtain ⟨y, σ₂, o₂, g3, g4, h2, h, k2⟩ := h
  replace h := opt_some h
  obtain ⟨⟨z, gs⟩, h3, h⟩ := h
  have k1 := k1 hg
  have k2 := k2 k1.2
  exact finEg h k2.2 fun hgs => .bin (H.e' h1 k1.1) (H.e' h2 k2.1) h3 hgs
noncomputable def stUn (r : Ev) (f : Fx) (op : UnaryOp) (e : Expr) (σ : S) (o : Orc) : R AV := bnd (r.e f e σ o) fun x σ o => opt x.i? fun a => match op with
  | .Invert => ret (mkI x.known (Builtin.bitNot a)) σ o
  | .USub => ret (mkI x.known (-a)) σ o
  | _ => none
theorem stUn_ok (H : Sound prog K n r) {op : UnaryOp} {e : Expr} {pos : Pos} {v : AV} {σ' : S} {o' : Orc} {g : List Prop} (h : stUn r f op e σ o = some (v, σ', o', g)) (hg : ∀ p ∈ g, p) : EvE prog K f (n + 1) (.UnaryOp op e pos) σ v σ' := by
  replace h := bnd_some h
  obtain ⟨x, σ₁, o₁, g1, g2, h1, h, k1⟩ := h
  replace h := opt_some h
  obtain ⟨a, ha, h⟩ := h
  have k1 := k1 hg
  cases op <;> first | exact no_ h | (cases h; done) | skip
  · exact finE h (.inv (H.e' h1 k1.1) ha)
  · exact finE h (.neg (H.e' h1 k1.1) ha)
noncomputable def stCmp (r : Ev) (f : Fx) (op : CmpOp) (l e : Expr) (σ : S) (o : Orc) : R AV := tst (!behindInMarks op e) (bnd (r.e f l σ o) fun x σ o => bnd (r.e f e σ o) fun y σ o => opt (cmpV op x y) fun z => ret z σ o)
theorem stCmp_ok (H : Sound prog K n r) {op : CmpOp} {l e : Expr} {v : AV} {σ' : S} {o' : Orc} {g : List Prop} (h : stCmp r f op l e σ o = some (v, σ', o', g)) (hg : ∀ p ∈ g, p) :
    ∃ x y σ₁, EvE prog K f (n + 1) l σ x σ₁ ∧ EvE prog K f (n + 1) e σ₁ y σ' ∧ behindInMarks op e = false ∧ cmpV op x y = some v := by
  replace h := tst_some h
  obtain ⟨hb, h⟩ := h
  replace h := bnd_some h
  obtain ⟨x, σ₁, o₁, g1, g2, h1, h, k1⟩ := h
  replace h := bnd_some h
  obtain ⟨y, σ₂, o₂, g3, g4, h2, h, k2⟩ := h
  replace h := opt_some h
  obtain ⟨z, h3, h⟩ := h
  cases h
  have k1 := k1 hg
  have k2 := k2 k1.2
  exact ⟨x, y, σ₁, H.e' h1 k1.1, H.e' h2 k2.1, by simpa using hb, h3⟩
/-- a truth value that is not known is asked -/
noncomputable def ask (b k : Bool) (σ : S) (o : Orc) : R Bool := match k with
  | true => ret b σ o
  | false => match o with
    | .b c :: o' => some (c, σ, o', [b = c])
    | _ => none
theorem ask_ok {b k x : Bool} {σ' : S} {o' : Orc} {g : List Prop} (h : ask b k σ o = some (x, σ', o', g)) (hg : ∀ p ∈ g, p) : x = b ∧ σ' = σ := by
  cases k with
  | true => cases h; exact ⟨rfl, rfl⟩
  | false =>
    cases o with
    | nil => first | exact no_ h | cases h
    | cons q o =>
      cases q <;> first | exact no_ h | (cases h; done) | skip
      cases h
      exact ⟨(hg _ (.head _)).symm, rfl⟩
noncomputable def stTruth (x : AV) (σ : S) (o : Orc) : R Bool := opt (truthV x) fun p => ask p.1 p.2 σ o
theorem stTruth_ok {x : AV} {b : Bool} {σ' : S} {o' : Orc} {g : List Prop} (h : stTruth x σ o = some (b, σ', o', g)) (hg : ∀ p ∈ g, p) : (∃ k, truthV x = some (b, k)) ∧ σ' = σ := by
  replace h := opt_some h
  obtain ⟨⟨b', k⟩, h1, h⟩ := h
  obtain ⟨rfl, rfl⟩ := ask_ok h hg
  exact ⟨⟨k, h1⟩, rfl⟩
end
end Mine
/-! text M9 -/
open PySem PySem.W PyProof.Rows PySem.Spec PySem.Calls
set_option Elab.async false
set_option maxRecDepth 100000
namespace Mine
noncomputable def natOf : Int → Option Nat
  | .ofNat n => some n
  | .negSucc _ => none
theorem natOf_of {k : Int} {j : Nat} (h : natOf k = some j) : k = (j : Int) := by cases k <;> first | (cases h; rfl) | cases h
noncomputable def small (j : Nat) : Bool := Nat.ble j 4294967296
theorem small_of {k : Int} {j : Nat} (h : natOf k = some j) (hs : small j = true) : ∀ p ∈ [0 ≤ k, k < 2 ^ 63], p := by
  have := natOf_of h
  have h2 : j ≤ 4294967296 := Nat.le_of_ble_eq_true hs
  subst this
  intro p hp
  rcases List.mem_cons.mp hp with rfl | hp
  · omega
  · rcases List.mem_cons.mp hp with rfl | hp
    · omega
    · cases hp
section
variable {prog : Program} {K : Params → Frag} {T : Tab} {n : Nat} {r : Ev} {f : Fx} {σ : S} {o : Orc}
/-! subscripts -/
noncomputable def itemPlain (xs : List Int) (k : Int) (σ : S) (o : Orc) : R AV := some (.int (xs.getD k.toNat 0), σ, o, [InB xs.length k])
noncomputable def itemI (xs : List Int) (k : Int) (σ : S) (o : Orc) : R AV := match o with
  | q :: o' => match q with
    | .k i => some (.cint i, σ, o', [InB xs.length k, xs.getD k.toNat 0 = i])
    | q => itemPlain xs k σ (q :: o')
  | [] => itemPlain xs k σ []
noncomputable def itemKn (k : Int) (xs : List α) (F : α → AV) (σ : S) (o : Orc) : R AV := opt (natOf k) fun j => tst (small j) (opt (nth xs j) fun z => ret (F z) σ o)
noncomputable def itemLI (xs : List AV) (k : Int) (σ : S) (o : Orc) : R AV := opt (allI xs) fun is => itemPlain is k σ o
noncomputable def itemL (xs : List AV) (y : AV) (k : Int) (σ : S) (o : Orc) : R AV := match y.known with
  | true => itemKn k xs id σ o
  | false => itemLI xs k σ o
noncomputable def itemN (xs : List Int) (y : AV) (k : Int) (σ : S) (o : Orc) : R AV := match y.known with
  | true => itemKn k xs .cint σ o
  | false => itemPlain xs k σ o
noncomputable def itemRo (xs : List Addr) (k : Int) (σ : S) (o : Orc) : R AV := match o with
  | q :: o' => match q with
    | .n j => tst (small j) (opt (nth xs j) fun z => some (.val (.ref z), σ, o', [k = (j : Int)]))
    | _ => none
  | [] => none
noncomputable def itemR (xs : List Addr) (y : AV) (k : Int) (σ : S) (o : Orc) : R AV := match y.known with
  | true => itemKn k xs (fun z => .val (.ref z)) σ o
  | false => itemRo xs k σ o
noncomputable def itemO (ao : AO) (y : AV) (σ : S) (o : Orc) : R AV := match ao with
  | .il xs => opt y.i? fun k => itemI xs k σ o
  | .list xs => opt y.i? fun k => itemL xs y k σ o
  | _ => none
noncomputable def itemT (l : KL) (y : AV) (σ : S) (o : Orc) : R AV := match l with
  | .nums xs => opt y.i? fun k => itemN xs y k σ o
  | .refs xs => opt y.i? fun k => itemR xs y k σ o
noncomputable def itemV (T : Tab) (v : Value) (y : AV) (σ : S) (o : Orc) : R AV := match v with
  | .ref a => opt (atA a T.lists) fun l => itemT l y σ o
  | _ => none
noncomputable def stItem (T : Tab) (x y : AV) (σ : S) (o : Orc) : R AV := match x with
  | .obj i => opt (nth σ.objs i) fun ao => itemO ao y σ o
  | .val v => itemV T v y σ o
  | _ => none
noncomputable def stSub (T : Tab) (r : Ev) (f : Fx) (v s : Expr) (σ : S) (o : Orc) : R AV := tst (notSlice s) (bnd (r.e f v σ o) fun x σ o => bnd (r.e f s σ o) fun y σ o => stItem T x y σ o)
section
variable {x y z : AV} {σ₀ σ₁ σ' : S} {o₁ o' : Orc} {g : List Prop} {v s : Expr} {pos : Pos} {i : Nat} {k : Int}
theorem itemKn_ok {α : Type} {xs : List α} {F : α → AV} {e : Expr} (h : itemKn k xs F σ₁ o₁ = some (z, σ', o', g)) (hE : ∀ (j : Nat) (w : α), k = (j : Int) → natOf k = some j → small j = true → xs[j]? = some w → EvE prog K f n e σ (F w) σ₁) : EvE prog K f n e σ z σ' := by
  obtain ⟨j, hj, h⟩ := opt_some h
  obtain ⟨hs, h⟩ := tst_some h
  obtain ⟨w, hw, h⟩ := opt_some h
  rw [nth_eq] at hw
  exact finE h (hE j w (natOf_of hj) hj hs hw)
theorem itemI_ok {xs : List Int} (h : itemI xs k σ₁ o₁ = some (z, σ', o', g)) (hg : ∀ p ∈ g, p) (h1 : EvE prog K f n v σ (.obj i) σ₀) (h2 : EvE prog K f n s σ₀ y σ₁) (hn : notSlice s = true) (hk : y.i? = some k) (ho : σ₁.objs[i]? = some (.il xs)) : EvE prog K f n (.Subscript v s pos) σ z σ' := by
  have plain : ∀ {o₁}, itemPlain xs k σ₁ o₁ = some (z, σ', o', g) → EvE prog K f n (.Subscript v s pos) σ z σ' := fun h => finEg h hg fun hg => .subI h1 h2 hn hk ho (hg _ (.head _))
  cases o₁ with
  | nil => exact plain h
  | cons q o₁ =>
    cases q with
    | k i => exact finEg h hg fun hg => .toC (.subI h1 h2 hn hk ho (hg _ (.head _))) (hg _ (.tail _ (.head _)))
    | _ => exact plain h
theorem itemL_ok {xs : List AV} (h : itemL xs y k σ₁ o₁ = some (z, σ', o', g)) (hg : ∀ p ∈ g, p) (h1 : EvE prog K f n v σ (.obj i) σ₀) (h2 : EvE prog K f n s σ₀ y σ₁) (hn : notSlice s = true) (hk : y.i? = some k) (ho : σ₁.objs[i]? = some (.list xs)) : EvE prog K f n (.Subscript v s pos) σ z σ' := by
  unfold itemL at h
  cases e : y.known with
  | true =>
    rw [e] at h
    exact itemKn_ok h fun j w hj hj' hs hw => .subL h1 h2 hn hk ho (by rw [hj]; exact hw) (small_of hj' hs)
  | false =>
    rw [e] at h
    obtain ⟨is, hi, h⟩ := opt_some h
    exact finEg h hg fun hg => .subLI h1 h2 hn hk ho hi (hg _ (.head _))
theorem itemN_ok {a : Addr} {xs : List Int} (L : KL.Ok K a (.nums xs)) (h : itemN xs y k σ₁ o₁ = some (z, σ', o', g)) (hg : ∀ p ∈ g, p) (h1 : EvE prog K f n v σ (.val (.ref a)) σ₀) (h2 : EvE prog K f n s σ₀ y σ₁) (hn : notSlice s = true) (hk : y.i? = some k) : EvE prog K f n (.Subscript v s pos) σ z σ' := by
  unfold itemN at h
  cases e : y.known with
  | true =>
    rw [e] at h
    refine itemKn_ok h fun j w hj hj' hs hw => ?_
    have sm := small_of hj' hs
    have hlt := (List.getElem?_eq_some_iff.mp hw).1
    refine .toC (.subKN h1 h2 hn hk L ⟨sm _ (.head _), by rw [hj]; omega, sm _ (.tail _ (.head _))⟩) ?_
    rw [hj, Int.toNat_natCast, List.getD_eq_getElem?_getD, hw]
    rfl
  | false =>
    rw [e] at h
    exact finEg h hg fun hg => .subKN h1 h2 hn hk L (hg _ (.head _))
theorem itemR_ok {a : Addr} {xs : List Addr} (L : KL.Ok K a (.refs xs)) (h : itemR xs y k σ₁ o₁ = some (z, σ', o', g)) (hg : ∀ p ∈ g, p) (h1 : EvE prog K f n v σ (.val (.ref a)) σ₀) (h2 : EvE prog K f n s σ₀ y σ₁) (hn : notSlice s = true) (hk : y.i? = some k) : EvE prog K f n (.Subscript v s pos) σ z σ' := by
  unfold itemR at h
  cases e : y.known with
  | true =>
    rw [e] at h
    exact itemKn_ok h fun j w hj hj' hs hw => .subKR h1 h2 hn hk L (by rw [hj]; exact hw) (small_of hj' hs)
  | false =>
    rw [e] at h
    cases o₁ with
    | nil => exact no_ h
    | cons q o₁ =>
      cases q with
      | n j =>
        obtain ⟨hs, h⟩ := tst_some h
        obtain ⟨w, hw, h⟩ := opt_some h
        rw [nth_eq] at hw
        refine finEg h hg fun hg => ?_
        have : k = (j : Int) := hg _ (.head _)
        exact .subKR h1 h2 hn hk L (by rw [this]; exact hw) (small_of (k := k) (j := j) (by rw [this]; rfl) hs)
      | _ => exact no_ h
end
theorem stItem_ok (H : TabOk K T) {x y z : AV} {σ₁ σ' : S} {o₁ o' : Orc} {g : List Prop} {v s : Expr} {pos : Pos} (h : stItem T x y σ₁ o₁ = some (z, σ', o', g)) (hg : ∀ p ∈ g, p) {σ₀ : S} (h1 : EvE prog K f n v σ x σ₀) (h2 : EvE prog K f n s σ₀ y σ₁) (hn : notSlice s = true) : EvE prog K f n (.Subscript v s pos) σ z σ' := by
  cases x with
  | obj i =>
    obtain ⟨ao, ho, h⟩ := opt_some h
    rw [nth_eq] at ho
    cases ao with
    | il xs =>
      obtain ⟨k, hk, h⟩ := opt_some h
      exact itemI_ok h hg h1 h2 hn hk ho
    | list xs =>
      obtain ⟨k, hk, h⟩ := opt_some h
      exact itemL_ok h hg h1 h2 hn hk ho
    | _ => exact no_ h
  | val u =>
    cases u with
    | ref a =>
      have h : (opt (atA a T.lists) fun l => itemT l y σ₁ o₁) = some (z, σ', o', g) := h
      obtain ⟨l, hl, h⟩ := opt_some h
      have L := H.lists _ (atA_mem hl)
      cases l with
      | nums xs =>
        obtain ⟨k, hk, h⟩ := opt_some h
        exact itemN_ok L h hg h1 h2 hn hk
      | refs xs =>
        obtain ⟨k, hk, h⟩ := opt_some h
        exact itemR_ok L h hg h1 h2 hn hk
    | _ => exact no_ h
  | _ => exact no_ h
theorem stSub_ok (HT : TabOk K T) (H : Sound prog K n r) {v s : Expr} {pos : Pos} {z : AV} {σ' : S} {o' : Orc} {g : List Prop} (h : stSub T r f v s σ o = some (z, σ', o', g)) (hg : ∀ p ∈ g, p) : EvE prog K f (n + 1) (.Subscript v s pos) σ z σ' := by
  replace h := tst_some h
  obtain ⟨hn, h⟩ := h
  replace h := bnd_some h
  obtain ⟨x, σ₁, o₁, g1, g2, h1, h, k1⟩ := h
  replace h := bnd_some h
  obtain ⟨y, σ₂, o₂, g3, g4, h2, h, k2⟩ := h
  have k1 := k1 hg
  have k2 := k2 k1.2
  exact stItem_ok HT h k2.2 (H.e' h1 k1.1) (H.e' h2 k2.1) hn
/-! calls -/
noncomputable def stArgs (r : Ev) (f : Fx) : List Expr → S → Orc → R (List AV)
  | [], σ, o => ret [] σ o
  | e :: es, σ, o => tst (notStar e) (bnd (r.e f e σ o) fun x σ o => bnd (stArgs r f es σ o) fun xs σ o => ret (x :: xs) σ o)
theorem stArgs_ok (H : Sound prog K n r) : ∀ {es : List Expr} {σ : S} {o : Orc} {xs : List AV} {σ' : S} {o' : Orc} {g : List Prop}, stArgs r f es σ o = some (xs, σ', o', g) → (∀ p ∈ g, p) → EvA prog K f (n + 1) es σ xs σ' ∧ ∀ e ∈ es, notStar e = true
  | [], σ, o, xs, σ', o', g, h, hg => by cases h; exact ⟨.nil, fun _ h => nomatch h⟩
  | e :: es, σ, o, xs, σ', o', g, h, hg => by
    replace h := tst_some h
    obtain ⟨hn, h⟩ := h
    replace h := bnd_some h
    obtain ⟨x, σ₁, o₁, g1, g2, h1, h, k1⟩ := h
    replace h := bnd_some h
    obtain ⟨ys, σ₂, o₂, g3, g4, h2, h, k2⟩ := h
    cases h
    have k1 := k1 hg
    have k2 := k2 k1.2
    obtain ⟨A1, A2⟩ := stArgs_ok H h2 k2.1
    refine ⟨.cons hn (H.e' h1 k1.1) A1, fun e' he => ?_⟩
    rcases List.mem_cons.mp he with rfl | he
    · exact hn
    · exact A2 e' he
noncomputable def callK (r : Ev) (fa : Addr) (xs : List AV) (σ : S) (o : Orc) : R AV := match r.c fa xs σ.objs o with
  | none => none
  | some (x, objs', o', g) => some (x, { σ with objs := objs' }, o', g)
theorem callK_ok (H : Sound prog K n r) {fa : Addr} {xs : List AV} {x : AV} {σ' : S} {o' : Orc} {g : List Prop} (h : callK r fa xs σ o = some (x, σ', o', g)) (hg : ∀ p ∈ g, p) :
    ∃ objs', σ' = { σ with objs := objs' } ∧ CallT prog K n fa xs σ.objs x objs' ∧ ∀ P, keepIn (K P) (.ref fa) = true ∧ fnIn (K P) fa = true := by
  unfold callK at h
  cases e : r.c fa xs σ.objs o with
  | none => rw [e] at h; first | exact no_ h | cases h
  | some p =>
    obtain ⟨y, objs', o'', g'⟩ := p
    rw [e] at h
    cases h
    exact ⟨objs', rfl, H.c e hg⟩
noncomputable def plainFun : Expr → Bool
  | .Name .. => true
  | .Subscript .. => true
  | _ => false
theorem call_eq {fe : Expr} {es : List Expr} {pos : Pos} (h : plainFun fe = true) (env : Env) : eval (.Call fe es [] pos) env = (do callWith pos (← eval fe env) [] (backTo pos (starEach es env)) (backToKw pos (keywordEach [] env))) := by
  cases fe <;> first | rfl | exact nb_ h
noncomputable def stCall (r : Ev) (f : Fx) (fe : Expr) (es : List Expr) (σ : S) (o : Orc) : R AV := tst f.fn (tst (plainFun fe) (bnd (r.e f fe σ o) fun x σ o => bnd (stArgs r f es σ o) fun xs σ o => match x with
  | .val (.ref fa) => callK r fa xs σ o
  | .obj k => opt (nth σ.objs k) fun ao => match ao with
    | .meth fa self => callK r fa (self :: xs) σ o
    | _ => none
  | _ => none))
theorem stCall_ok (H : Sound prog K n r) {fe : Expr} {es : List Expr} {pos : Pos} {z : AV} {σ' : S} {o' : Orc} {g : List Prop} (h : stCall r f fe es σ o = some (z, σ', o', g)) (hg : ∀ p ∈ g, p) : EvE prog K f (n + 1) (.Call fe es [] pos) σ z σ' := by
  replace h := tst_some h
  obtain ⟨hf, h⟩ := h
  replace h := tst_some h
  obtain ⟨hp, h⟩ := h
  replace h := bnd_some h
  obtain ⟨x, σ₁, o₁, g1, g2, h1, h, k1⟩ := h
  replace h := bnd_some h
  obtain ⟨xs, σ₂, o₂, g3, g4, h2, h, k2⟩ := h
  have k1 := k1 hg
  have k2 := k2 k1.2
  have E1 := H.e' h1 k1.1
  obtain ⟨A1, A2⟩ := stArgs_ok H h2 k2.1
  cases x <;> first | exact no_ h | (cases h; done) | skip
  · replace h := opt_some h
    obtain ⟨ao, ho, h⟩ := h
    rw [nth_eq] at ho
    cases ao <;> first | exact no_ h | (cases h; done) | skip
    obtain ⟨objs', e, c, hk⟩ := callK_ok H h k2.2
    rw [e]
    exact .callBound hf E1 A2 (call_eq hp) A1 ho (fun P => (hk P).2) c
  · rename_i u
    cases u <;> first | exact no_ h | (cases h; done) | skip
    obtain ⟨objs', e, c, hk⟩ := callK_ok H h k2.2
    rw [e]
    exact .callFn hf E1 A2 (call_eq hp) A1 (fun P => (hk P).1) c
noncomputable def stMeth (T : Tab) (r : Ev) (f : Fx) (y name : Str) (apos : Pos) (es : List Expr) (pos : Pos) (σ : S) (o : Orc) : R AV := tst f.fn (tst (Nat.blt es.length 29 && Nat.beq apos.endLine pos.line) (bnd (stName T f y σ o) fun x σ o => opt (objI x) fun i => opt (instAt T.C σ i) fun p =>
  match look name p.2 with
  | some _ => none
  | none => opt (look name T.meths) fun fa => bnd (stArgs r f es σ o) fun xs σ o => callK r fa (.obj i :: xs) σ o))
theorem stMeth_ok (HT : TabOk K T) (H : Sound prog K n r) {y name : Str} {np apos pos : Pos} {es : List Expr} {z : AV} {σ' : S} {o' : Orc} {g : List Prop} (h : stMeth T r f y name apos es pos σ o = some (z, σ', o', g)) (hg : ∀ p ∈ g, p) : EvE prog K f (n + 1) (.Call (.Attribute (.Name y np) name apos) es [] pos) σ z σ' := by
  replace h := tst_some h
  obtain ⟨hf, h⟩ := h
  replace h := tst_some h
  obtain ⟨hp, h⟩ := h
  replace h := bnd_some h
  obtain ⟨x, σ₁, o₁, g1, g2, h1, h, k1⟩ := h
  replace h := opt_some h
  obtain ⟨i, hi, h⟩ := h
  replace h := opt_some h
  obtain ⟨⟨j, as⟩, hj, h⟩ := h
  obtain ⟨ho, ha⟩ := instAt_of hj
  have E1 := stName_ok (prog := prog) (n := n + 1) (pos := np) HT h1
  rw [objI_of hi] at E1
  dsimp only at h
  cases e : look name as with
  | some _ => rw [e] at h; first | exact no_ h | cases h
  | none =>
    rw [e] at h
    replace h := opt_some h
    obtain ⟨fa, hfa, h⟩ := h
    replace h := bnd_some h
    obtain ⟨xs, σ₂, o₂, g3, g4, h2, h, k2⟩ := h
    have k1 := k1 hg
    have k2 := k2 k1.2
    obtain ⟨A1, A2⟩ := stArgs_ok H h2 k2.1
    obtain ⟨objs', e', c, hk⟩ := callK_ok H h k2.2
    rw [e']
    obtain ⟨hp1, hp2⟩ := Bool.and_eq_true_iff.mp hp
    have hl : es.length < 29 := Nat.lt_of_lt_of_le (Nat.lt_succ_self _) (Nat.le_of_ble_eq_true hp1)
    exact .callMeth hf E1 A2 _ (fun env => meth_eq A2 hl (by rw [Nat.eq_of_beq_eq_true hp2]; exact beq_self_eq_true _)) ho ha e (HT.meths _ (look_mem hfa)) A1 (fun P => (hk P).1) c
/-! expressions, tests -/
noncomputable def stAttrD (T : Tab) (f : Fx) (v : Expr) (x : Str) (σ : S) (o : Orc) : R AV := match v with
  | .Name y _ => stAttr T f y x σ o
  | _ => none
noncomputable def stCmpD (r : Ev) (f : Fx) (l : Expr) (ops : List CmpOp) (es : List Expr) (σ : S) (o : Orc) : R AV := match ops, es with
  | [op], [e] => stCmp r f op l e σ o
  | _, _ => none
noncomputable def stIte (r : Ev) (f : Fx) (t a b : Expr) (σ : S) (o : Orc) : R AV := bnd (r.t f t σ o) fun x σ o => match x with
  | true => r.e f a σ o
  | false => r.e f b σ o
noncomputable def stMethD (T : Tab) (r : Ev) (f : Fx) (v : Expr) (name : Str) (apos : Pos) (es : List Expr) (pos : Pos) (σ : S) (o : Orc) : R AV := match v with
  | .Name y _ => stMeth T r f y name apos es pos σ o
  | _ => none
noncomputable def stCallD (T : Tab) (r : Ev) (f : Fx) (fe : Expr) (es : List Expr) (pos : Pos) (σ : S) (o : Orc) : R AV := match fe with
  | .Attribute v name apos => stMethD T r f v name apos es pos σ o
  | fe => stCall r f fe es σ o
noncomputable def stE (T : Tab) (r : Ev) (f : Fx) (e : Expr) (σ : S) (o : Orc) : R AV := match e with
  | .Constant c _ _ => stConst c σ o
  | .Name x _ => stName T f x σ o
  | .Attribute v x _ => stAttrD T f v x σ o
  | .BinOp l op e _ => stBin r f op l e σ o
  | .UnaryOp op e _ => stUn r f op e σ o
  | .Compare l ops es _ => stCmpD r f l ops es σ o
  | .IfExp t a b _ => stIte r f t a b σ o
  | .Subscript v s _ => stSub T r f v s σ o
  | .Call fe es ks pos => match ks with
    | [] => stCallD T r f fe es pos σ o
    | _ :: _ => none
  | _ => none
theorem stAttrD_ok (HT : TabOk K T) {v : Expr} {x : Str} {pos : Pos} {z : AV} {σ' : S} {o' : Orc} {g : List Prop} (h : stAttrD T f v x σ o = some (z, σ', o', g)) : EvE prog K f (n + 1) (.Attribute v x pos) σ z σ' := by
  cases v with
  | Name y _ => exact stAttr_ok HT h
  | _ => exact no_ h
theorem stCmpD_ok (H : Sound prog K n r) {l : Expr} {ops : List CmpOp} {es : List Expr} {pos : Pos} {z : AV} {σ' : S} {o' : Orc} {g : List Prop} (h : stCmpD r f l ops es σ o = some (z, σ', o', g)) (hg : ∀ p ∈ g, p) : EvE prog K f (n + 1) (.Compare l ops es pos) σ z σ' := by
  rcases ops with _ | ⟨op, _ | ⟨op', ops⟩⟩
  · exact no_ h
  · rcases es with _ | ⟨e, _ | ⟨e', es⟩⟩
    · exact no_ h
    · obtain ⟨x, y, σ₁, h1, h2, h3, h4⟩ := stCmp_ok H h hg
      exact .cmp h1 h2 h3 h4
    · exact no_ h
  · exact no_ h
theorem stIte_ok (H : Sound prog K n r) {t a b : Expr} {pos : Pos} {z : AV} {σ' : S} {o' : Orc} {g : List Prop} (h : stIte r f t a b σ o = some (z, σ', o', g)) (hg : ∀ p ∈ g, p) : EvE prog K f (n + 1) (.IfExp t a b pos) σ z σ' := by
  obtain ⟨x, σ₁, o₁, g1, g2, h1, h, k1⟩ := bnd_some h
  have k1 := k1 hg
  refine .ite (H.t' h1 k1.1) ?_
  cases x with
  | true => exact H.e' h k1.2
  | false => exact H.e' h k1.2
theorem stMethD_ok (HT : TabOk K T) (H : Sound prog K n r) {v : Expr} {name : Str} {apos pos : Pos} {es : List Expr} {z : AV} {σ' : S} {o' : Orc} {g : List Prop} (h : stMethD T r f v name apos es pos σ o = some (z, σ', o', g)) (hg : ∀ p ∈ g, p) : EvE prog K f (n + 1) (.Call (.Attribute v name apos) es [] pos) σ z σ' := by
  cases v with
  | Name y _ => exact stMeth_ok HT H h hg
  | _ => exact no_ h
theorem stCallD_ok (HT : TabOk K T) (H : Sound prog K n r) {fe : Expr} {es : List Expr} {pos : Pos} {z : AV} {σ' : S} {o' : Orc} {g : List Prop} (h : stCallD T r f fe es pos σ o = some (z, σ', o', g)) (hg : ∀ p ∈ g, p) : EvE prog K f (n + 1) (.Call fe es [] pos) σ z σ' := by
  cases fe with
  | Attribute v name apos => exact stMethD_ok HT H h hg
  | _ => exact stCall_ok H h hg
theorem stE_ok (HT : TabOk K T) (H : Sound prog K n r) {e : Expr} {z : AV} {σ' : S} {o' : Orc} {g : List Prop} (h : stE T r f e σ o = some (z, σ', o', g)) (hg : ∀ p ∈ g, p) : EvE prog K f (n + 1) e σ z σ' := by
  cases e with
  | Constant => exact stConst_ok h
  | Name => exact stName_ok HT h
  | Attribute => exact stAttrD_ok HT h
  | BinOp => exact stBin_ok H h hg
  | UnaryOp => exact stUn_ok H h hg
  | Compare => exact stCmpD_ok H h hg
  | IfExp => exact stIte_ok H h hg
  | Subscript => exact stSub_ok HT H h hg
  | Call fe es ks pos =>
    cases ks with
    | nil => exact stCallD_ok HT H h hg
    | cons => exact no_ h
  | _ => exact no_ h
noncomputable def stAnd (r : Ev) (f : Fx) : List Expr → S → Orc → R Bool
  | [], σ, o => ret true σ o
  | e :: es, σ, o => bnd (r.t f e σ o) fun x σ o => match x with
    | true => stAnd r f es σ o
    | false => ret false σ o
theorem stAnd_ok (H : Sound prog K n r) {pos : Pos} : ∀ {es : List Expr} {σ : S} {o : Orc} {x : Bool} {σ' : S} {o' : Orc} {g : List Prop}, stAnd r f es σ o = some (x, σ', o', g) → (∀ p ∈ g, p) → EvT prog K f (n + 1) (.BoolOp .And es pos) σ x σ'
  | [], σ, o, x, σ', o', g, h, hg => by cases h; exact .and_nil
  | e :: es, σ, o, x, σ', o', g, h, hg => by
    replace h := bnd_some h
    obtain ⟨y, σ₁, o₁, g1, g2, h1, h, k1⟩ := h
    have k1 := k1 hg
    cases y with
    | true => exact .and_t (H.t' h1 k1.1) (stAnd_ok H h k1.2)
    | false => cases h; exact .and_f (H.t' h1 k1.1)
noncomputable def stOr (r : Ev) (f : Fx) : List Expr → S → Orc → R Bool
  | [], σ, o => ret false σ o
  | e :: es, σ, o => bnd (r.t f e σ o) fun x σ o => match x with
    | false => stOr r f es σ o
    | true => ret true σ o
theorem stOr_ok (H : Sound prog K n r) {pos : Pos} : ∀ {es : List Expr} {σ : S} {o : Orc} {x : Bool} {σ' : S} {o' : Orc} {g : List Prop}, stOr r f es σ o = some (x, σ', o', g) → (∀ p ∈ g, p) → EvT prog K f (n + 1) (.BoolOp .Or es pos) σ x σ'
  | [], σ, o, x, σ', o', g, h, hg => by cases h; exact .or_nil
  | e :: es, σ, o, x, σ', o', g, h, hg => by
    replace h := bnd_some h
    obtain ⟨y, σ₁, o₁, g1, g2, h1, h, k1⟩ := h
    have k1 := k1 hg
    cases y with
    | false => exact .or_f (H.t' h1 k1.1) (stOr_ok H h k1.2)
    | true => cases h; exact .or_t (H.t' h1 k1.1)
noncomputable def stPl (r : Ev) (f : Fx) (e : Expr) (σ : S) (o : Orc) : R Bool := tst (plainTest e) (bnd (r.e f e σ o) fun x σ o => stTruth x σ o)
theorem stPl_ok (H : Sound prog K n r) {e : Expr} {z : Bool} {σ' : S} {o' : Orc} {g : List Prop} (h : stPl r f e σ o = some (z, σ', o', g)) (hg : ∀ p ∈ g, p) : EvT prog K f (n + 1) e σ z σ' := by
  obtain ⟨hp, h⟩ := tst_some h
  obtain ⟨y, σ₁, o₁, g1, g2, h1, h, k1⟩ := bnd_some h
  obtain ⟨⟨k, ht⟩, rfl⟩ := stTruth_ok h (k1 hg).2
  exact .plain hp (H.e' h1 (k1 hg).1) ht
noncomputable def stNot (r : Ev) (f : Fx) (op : UnaryOp) (e : Expr) (p : Pos) (σ : S) (o : Orc) : R Bool := match op with
  | .Not => bnd (r.t f e σ o) fun x σ o => ret (!x) σ o
  | op => stPl r f (.UnaryOp op e p) σ o
noncomputable def stBool (r : Ev) (f : Fx) (op : BoolOp) (es : List Expr) (σ : S) (o : Orc) : R Bool := match op with
  | .And => stAnd r f es σ o
  | .Or => stOr r f es σ o
noncomputable def stCmpT (r : Ev) (f : Fx) (l : Expr) (ops : List CmpOp) (es : List Expr) (p : Pos) (σ : S) (o : Orc) : R Bool := match ops, es with
  | [op], [e] => bnd (stCmp r f op l e σ o) fun x σ o => stTruth x σ o
  | ops, es => stPl r f (.Compare l ops es p) σ o
noncomputable def stTst (r : Ev) (f : Fx) (e : Expr) (σ : S) (o : Orc) : R Bool := match e with
  | .UnaryOp op e p => stNot r f op e p σ o
  | .BoolOp op es _ => stBool r f op es σ o
  | .Compare l ops es p => stCmpT r f l ops es p σ o
  | e => stPl r f e σ o
theorem stCmpT_ok (H : Sound prog K n r) {l : Expr} {ops : List CmpOp} {es : List Expr} {p : Pos} {z : Bool} {σ' : S} {o' : Orc} {g : List Prop} (h : stCmpT r f l ops es p σ o = some (z, σ', o', g)) (hg : ∀ p ∈ g, p) : EvT prog K f (n + 1) (.Compare l ops es p) σ z σ' := by
  rcases ops with _ | ⟨op, _ | ⟨op', ops⟩⟩
  · exact stPl_ok H h hg
  · rcases es with _ | ⟨e, _ | ⟨e', es⟩⟩
    · exact stPl_ok H h hg
    · obtain ⟨y, σ₁, o₁, g1, g2, h1, h, k1⟩ := bnd_some h
      obtain ⟨x, y', σ₂, e1, e2, e3, e4⟩ := stCmp_ok H h1 (k1 hg).1
      obtain ⟨⟨k, ht⟩, rfl⟩ := stTruth_ok h (k1 hg).2
      exact .cmp e1 e2 e3 e4 ht
    · exact stPl_ok H h hg
  · exact stPl_ok H h hg
theorem stNot_ok (H : Sound prog K n r) {op : UnaryOp} {e : Expr} {p : Pos} {z : Bool} {σ' : S} {o' : Orc} {g : List Prop} (h : stNot r f op e p σ o = some (z, σ', o', g)) (hg : ∀ p ∈ g, p) : EvT prog K f (n + 1) (.UnaryOp op e p) σ z σ' := by
  cases op with
  | Not =>
    have h : bnd (r.t f e σ o) (fun x σ o => ret (!x) σ o) = some (z, σ', o', g) := h
    obtain ⟨y, σ₁, o₁, g1, g2, h1, h, k1⟩ := bnd_some h
    cases h
    exact .not (H.t' h1 (k1 hg).1)
  | _ => exact stPl_ok H h hg
theorem stTst_ok (H : Sound prog K n r) {e : Expr} {z : Bool} {σ' : S} {o' : Orc} {g : List Prop} (h : stTst r f e σ o = some (z, σ', o', g)) (hg : ∀ p ∈ g, p) : EvT prog K f (n + 1) e σ z σ' := by
  cases e with
  | UnaryOp op e p =>
    exact stNot_ok H h hg
  | BoolOp op es p =>
    cases op with
    | And => exact stAnd_ok H h hg
    | Or => exact stOr_ok H h hg
  | Compare => exact stCmpT_ok H h hg
  | _ => exact stPl_ok H h hg
end
end Mine
/-! text M10 -/
open PySem PySem.W PyProof.Rows PySem.Spec PySem.Calls
set_option Elab.async false
set_option maxRecDepth 100000
namespace Mine
section
variable {prog : Program} {K : Params → Frag} {T : Tab} {n : Nat} {r : Ev} {f : Fx} {σ : S} {o : Orc}
noncomputable def cellSt (av : AV) (i : Nat) (σ : S) (o : Orc) : R Out := opt (nth σ.objs i) fun ao => match ao with
  | .cell _ => ret .next { σ with objs := upd σ.objs i (.cell (some av)) } o
  | _ => none
noncomputable def nameSt (f : Fx) (x : Str) (av : AV) (σ : S) (o : Orc) : R Out := opt (look x f.cs.names) fun k => match k with
  | .local => opt (setLoc x av σ.locs) fun l => ret .next { σ with locs := l } o
  | .cell => opt (look x σ.cells) fun i => cellSt av i σ o
  | _ => none
noncomputable def attrSt (T : Tab) (f : Fx) (y x : Str) (av : AV) (σ : S) (o : Orc) : R Out := bnd (stName T f y σ o) fun w σ o => opt (objI w) fun i => opt (instAt T.C σ i) fun p =>
    tst (has x T.own) (tst (Nat.ble p.2.length 900) (ret .next { σ with objs := upd σ.objs p.1 (.attrs (setA x av p.2)) } o))
noncomputable def ilSt (av y w : AV) (σ : S) (o : Orc) : R Out := opt (objI w) fun j => opt (nth σ.objs j) fun ao => match ao with
  | .il xs => opt av.i? fun z => opt y.i? fun k => some (.next, { σ with objs := upd σ.objs j (.il (xs.set k.toNat z)) }, o, [InB xs.length k])
  | _ => none
noncomputable def attrStD (T : Tab) (r : Ev) (f : Fx) (a : Expr) (x : Str) (v : Expr) (σ : S) (o : Orc) : R Out := match a with
  | .Name y _ => bnd (r.e f v σ o) fun av σ o => attrSt T f y x av σ o
  | _ => none
noncomputable def stAssignT (T : Tab) (r : Ev) (f : Fx) (t v : Expr) (σ : S) (o : Orc) : R Out := match t with
  | .Name x _ => tst f.fn (bnd (r.e f v σ o) fun av σ o => nameSt f x av σ o)
  | .Attribute a x _ => attrStD T r f a x v σ o
  | .Subscript a s _ => bnd (r.e f v σ o) fun av σ o => bnd (r.e f a σ o) fun w σ o => bnd (r.e f s σ o) fun y σ o => ilSt av y w σ o
  | _ => none
noncomputable def stAssign (T : Tab) (r : Ev) (f : Fx) (t v : Expr) (σ : S) (o : Orc) : R Out := tst (notComp v) (stAssignT T r f t v σ o)
theorem ilSt_ok {a s v : Expr} {tp pos : Pos} {av y w : AV} {σ₁ σ₂ σ₃ : S} {z : Out} {σ' : S} {o' : Orc} {g : List Prop} (hc : notComp v = true) (E1 : EvE prog K f (n + 1) v σ av σ₁) (E2 : EvE prog K f (n + 1) a σ₁ w σ₂) (E3 : EvE prog K f (n + 1) s σ₂ y σ₃) (h : ilSt av y w σ₃ o = some (z, σ', o', g)) (hg : ∀ p ∈ g, p) : EvS prog K f (n + 1) (.Assign [.Subscript a s tp] v pos) σ z σ' := by
  obtain ⟨j, hj, h⟩ := opt_some h
  obtain ⟨ao, ho, h⟩ := opt_some h
  rw [nth_eq] at ho
  cases ao with
  | il xs =>
    obtain ⟨z', hz, h⟩ := opt_some h
    obtain ⟨k, hk, h⟩ := opt_some h
    rw [objI_of hj] at E2
    refine finSg h hg fun hg => ?_
    rw [upd_eq]
    exact .setI E1 E2 E3 hz hk ho (hg _ (.head _)) fun _ => swaps_plain hc
  | _ => exact no_ h
theorem nameSt_ok {x : Str} {v : Expr} {tp pos : Pos} {av : AV} {σ₁ : S} {z : Out} {σ' : S} {o' : Orc} {g : List Prop} (hf : f.fn = true) (hc : notComp v = true) (E1 : EvE prog K f n v σ av σ₁) (h : nameSt f x av σ₁ o = some (z, σ', o', g)) : EvS prog K f n (.Assign [.Name x tp] v pos) σ z σ' := by
  obtain ⟨k, hk, h⟩ := opt_some h
  cases k with
  | «local» =>
    obtain ⟨l, hl, h⟩ := opt_some h
    exact finS h (.assignL hf E1 hl hk fun _ => swaps_plain hc)
  | cell =>
    obtain ⟨i, hi, h⟩ := opt_some h
    obtain ⟨ao, ho, h⟩ := opt_some h
    rw [nth_eq] at ho
    cases ao with
    | cell =>
      refine finS h ?_
      rw [upd_eq]
      exact .assignC E1 hi ho hk fun _ _ => swaps_plain hc
    | _ => exact no_ h
  | _ => exact no_ h
theorem attrStD_ok (HT : TabOk K T) (H : Sound prog K n r) {a v : Expr} {x : Str} {tp pos : Pos} {z : Out} {σ' : S} {o' : Orc} {g : List Prop} (hc : notComp v = true) (h : attrStD T r f a x v σ o = some (z, σ', o', g)) (hg : ∀ p ∈ g, p) : EvS prog K f (n + 1) (.Assign [.Attribute a x tp] v pos) σ z σ' := by
  cases a with
  | Name y np =>
    obtain ⟨av, σ₁, o₁, g1, g2, h1, h, k1⟩ := bnd_some h
    obtain ⟨w, σ₂, o₂, g3, g4, h2, h, k2⟩ := bnd_some h
    obtain ⟨i, hi, h⟩ := opt_some h
    obtain ⟨⟨j, as⟩, hj, h⟩ := opt_some h
    obtain ⟨hw, h⟩ := tst_some h
    obtain ⟨hl, h⟩ := tst_some h
    obtain ⟨ho, ha⟩ := instAt_of hj
    have E2 := stName_ok (prog := prog) (n := n + 1) (pos := np) HT h2
    rw [objI_of hi] at E2
    refine finS h ?_
    rw [upd_eq]
    exact .setAttr (H.e' h1 (k1 hg).1) E2 ho ha (HT.own _ (has_mem hw)).2 (Nat.le_of_ble_eq_true hl) fun _ => swaps_plain hc
  | _ => exact no_ h
theorem stAssign_ok (HT : TabOk K T) (H : Sound prog K n r) {t v : Expr} {pos : Pos} {z : Out} {σ' : S} {o' : Orc} {g : List Prop} (h : stAssign T r f t v σ o = some (z, σ', o', g)) (hg : ∀ p ∈ g, p) : EvS prog K f (n + 1) (.Assign [t] v pos) σ z σ' := by
  obtain ⟨hc, h⟩ := tst_some h
  cases t with
  | Name x tp =>
    obtain ⟨hf, h⟩ := tst_some h
    obtain ⟨av, σ₁, o₁, g1, g2, h1, h, k1⟩ := bnd_some h
    exact nameSt_ok hf hc (H.e' h1 (k1 hg).1) h
  | Attribute => exact attrStD_ok HT H hc h hg
  | Subscript a s tp =>
    obtain ⟨av, σ₁, o₁, g1, g2, h1, h, k1⟩ := bnd_some h
    obtain ⟨w, σ₂, o₂, g3, g4, h2, h, k2⟩ := bnd_some h
    obtain ⟨y, σ₃, o₃, g5, g6, h3, h, k3⟩ := bnd_some h
    have k1 := k1 hg
    have k2 := k2 k1.2
    have k3 := k3 k2.2
    exact ilSt_ok hc (H.e' h1 k1.1) (H.e' h2 k2.1) (H.e' h3 k3.1) h k3.2
  | _ => exact no_ h
noncomputable def augLoc (r : Ev) (f : Fx) (x : Str) (op : Operator) (v : Expr) (σ : S) (o : Orc) : R Out := opt (look x σ.locs) fun u => opt u fun old => bnd (r.e f v σ o) fun y σ o => opt (opV op old y) fun p => opt (setLoc x p.1 σ.locs) fun l => some (.next, { σ with locs := l }, o, p.2)
noncomputable def augName (r : Ev) (f : Fx) (x : Str) (op : Operator) (v : Expr) (σ : S) (o : Orc) : R Out := tst f.fn (opt (look x f.cs.names) fun k => match k with
  | .local => augLoc r f x op v σ o
  | _ => none)
noncomputable def augAttr (T : Tab) (r : Ev) (f : Fx) (y x : Str) (op : Operator) (v : Expr) (σ : S) (o : Orc) : R Out := tst (has x T.own) (bnd (stName T f y σ o) fun w σ o => opt (objI w) fun i => opt (instAt T.C σ i) fun p => opt (look x p.2) fun old => tst (hand old) (bnd (r.e f v σ o) fun z σ o =>
      opt (opV op old z) fun q => opt (instAt T.C σ i) fun p' => tst (Nat.beq p'.1 p.1) (tst (Nat.ble p'.2.length 900) (some (.next, { σ with objs := upd σ.objs p'.1 (.attrs (setA x q.1 p'.2)) }, o, q.2)))))
noncomputable def augAttrD (T : Tab) (r : Ev) (f : Fx) (a : Expr) (x : Str) (op : Operator) (v : Expr) (σ : S) (o : Orc) : R Out := match a with
  | .Name y _ => augAttr T r f y x op v σ o
  | _ => none
noncomputable def stAug (T : Tab) (r : Ev) (f : Fx) (t : Expr) (op : Operator) (v : Expr) (σ : S) (o : Orc) : R Out := match t with
  | .Name x _ => augName r f x op v σ o
  | .Attribute a x _ => augAttrD T r f a x op v σ o
  | _ => none
theorem augName_ok (H : Sound prog K n r) {x : Str} {v : Expr} {op : Operator} {tp pos : Pos} {z : Out} {σ' : S} {o' : Orc} {g : List Prop} (h : augName r f x op v σ o = some (z, σ', o', g)) (hg : ∀ p ∈ g, p) : EvS prog K f (n + 1) (.AugAssign (.Name x tp) op v pos) σ z σ' := by
  obtain ⟨hf, h⟩ := tst_some h
  obtain ⟨k, hk, h⟩ := opt_some h
  cases k with
  | «local» =>
    obtain ⟨u, hu, h⟩ := opt_some h
    obtain ⟨old, hold, h⟩ := opt_some h
    obtain ⟨y, σ₁, o₁, g1, g2, h1, h, k1⟩ := bnd_some h
    obtain ⟨⟨nw, gs⟩, hn, h⟩ := opt_some h
    obtain ⟨l, hl, h'⟩ := opt_some h
    have k1 := k1 hg
    subst hold
    exact finSg h' k1.2 fun hgs => .augL hf hu (H.e' h1 k1.1) hn hgs hl hk
  | _ => exact no_ h
theorem augAttr_ok (HT : TabOk K T) (H : Sound prog K n r) {y x : Str} {v : Expr} {op : Operator} {np tp pos : Pos} {z : Out} {σ' : S} {o' : Orc} {g : List Prop} (h : augAttr T r f y x op v σ o = some (z, σ', o', g)) (hg : ∀ p ∈ g, p) : EvS prog K f (n + 1) (.AugAssign (.Attribute (.Name y np) x tp) op v pos) σ z σ' := by
  obtain ⟨hw, h⟩ := tst_some h
  obtain ⟨w, σ₂, o₂, g3, g4, h2, h, k2⟩ := bnd_some h
  obtain ⟨i, hi, h⟩ := opt_some h
  obtain ⟨⟨j, as⟩, hj, h⟩ := opt_some h
  obtain ⟨old, hold, h⟩ := opt_some h
  obtain ⟨hh, h⟩ := tst_some h
  obtain ⟨z', σ₁, o₁, g1, g2, h1, h, k1⟩ := bnd_some h
  obtain ⟨⟨nw, gs⟩, hn, h⟩ := opt_some h
  obtain ⟨⟨j', as'⟩, hj', h⟩ := opt_some h
  obtain ⟨hjj, h⟩ := tst_some h
  obtain ⟨hl, h'⟩ := tst_some h
  have hjj : j' = j := Nat.eq_of_beq_eq_true hjj
  subst hjj
  have k2 := k2 hg
  have k1 := k1 k2.2
  obtain ⟨ho, ha⟩ := instAt_of hj
  obtain ⟨ho', ha'⟩ := instAt_of hj'
  have E2 := stName_ok (prog := prog) (n := n + 1) (pos := np) HT h2
  rw [objI_of hi] at E2
  refine finSg h' k1.2 fun hgs => ?_
  rw [upd_eq]
  exact .augAttr E2 ho ha (HT.own _ (has_mem hw)).1 hold hh (H.e' h1 k1.1) (fun w A as a b s Q E => opV_inplace hn hgs w A as a b s Q E) ho' ha' (HT.own _ (has_mem hw)).2 (Nat.le_of_ble_eq_true hl)
theorem stAug_ok (HT : TabOk K T) (H : Sound prog K n r) {t v : Expr} {op : Operator} {pos : Pos} {z : Out} {σ' : S} {o' : Orc} {g : List Prop} (h : stAug T r f t op v σ o = some (z, σ', o', g)) (hg : ∀ p ∈ g, p) : EvS prog K f (n + 1) (.AugAssign t op v pos) σ z σ' := by
  cases t with
  | Name => exact augName_ok H h hg
  | Attribute a x p =>
    cases a with
    | Name => exact augAttr_ok HT H h hg
    | _ => exact no_ h
  | _ => exact no_ h
noncomputable def askS (prog : Program) (K : Params → Frag) (n : Nat) (f : Fx) (st : Stmt) (σ : S) (o : Orc) : R Out := match o with
  | q :: o' => match q with
    | .s z σ' => some (z, σ', o', [EvS prog K f n st σ z σ'])
    | _ => none
  | [] => none
theorem askS_ok {st : Stmt} {z : Out} {σ' : S} {o' : Orc} {g : List Prop} (h : askS prog K n f st σ o = some (z, σ', o', g)) (hg : ∀ p ∈ g, p) : EvS prog K f n st σ z σ' := by
  cases o with
  | nil => exact no_ h
  | cons q o =>
    cases q with
    | s x σ₂ => cases h; exact hg _ (.head _)
    | _ => exact no_ h
noncomputable def stRet (r : Ev) (f : Fx) (v : Option Expr) (σ : S) (o : Orc) : R Out := match v with
  | some e => bnd (r.e f e σ o) fun x σ o => ret (.ret x) σ o
  | none => none
noncomputable def stAsgs (T : Tab) (r : Ev) (f : Fx) (ts : List Expr) (v : Expr) (σ : S) (o : Orc) : R Out := match ts with
  | [t] => stAssign T r f t v σ o
  | _ => none
noncomputable def stIf (r : Ev) (f : Fx) (t : Expr) (a b : List Stmt) (σ : S) (o : Orc) : R Out := bnd (r.t f t σ o) fun x σ o => match x with
  | true => r.b f a σ o
  | false => r.b f b σ o
noncomputable def stEx (r : Ev) (f : Fx) (e : Expr) (σ : S) (o : Orc) : R Out := tst (notComp e) (bnd (r.e f e σ o) fun _ σ o => ret .next σ o)
noncomputable def stS (prog : Program) (K : Params → Frag) (n : Nat) (T : Tab) (r : Ev) (f : Fx) (st : Stmt) (σ : S) (o : Orc) : R Out := match st with
  | .Expr e _ => stEx r f e σ o
  | .Pass _ => ret .next σ o
  | .Continue _ => ret .cont σ o
  | .Return v _ => stRet r f v σ o
  | .Assign ts v _ => stAsgs T r f ts v σ o
  | .AugAssign t op v _ => stAug T r f t op v σ o
  | .If t a b _ => stIf r f t a b σ o
  | .For a b c d e => askS prog K n f (.For a b c d e) σ o
  | .While a b c d => askS prog K n f (.While a b c d) σ o
  | _ => none
theorem stEx_ok (H : Sound prog K n r) {e : Expr} {p : Pos} {z : Out} {σ' : S} {o' : Orc} {g : List Prop} (h : stEx r f e σ o = some (z, σ', o', g)) (hg : ∀ p ∈ g, p) : EvS prog K f (n + 1) (.Expr e p) σ z σ' := by
  obtain ⟨hc, h⟩ := tst_some h
  obtain ⟨y, σ₁, o₁, g1, g2, h1, h, k1⟩ := bnd_some h
  exact finS h (.expr (H.e' h1 (k1 hg).1) fun _ => swaps_plain hc)
theorem stIf_ok (H : Sound prog K n r) {t : Expr} {a b : List Stmt} {p : Pos} {z : Out} {σ' : S} {o' : Orc} {g : List Prop} (h : stIf r f t a b σ o = some (z, σ', o', g)) (hg : ∀ p ∈ g, p) : EvS prog K f (n + 1) (.If t a b p) σ z σ' := by
  obtain ⟨x, σ₁, o₁, g1, g2, h1, h, k1⟩ := bnd_some h
  have k1 := k1 hg
  refine .ite (H.t' h1 k1.1) ?_
  cases x with
  | true => exact H.b' h k1.2
  | false => exact H.b' h k1.2
theorem stRet_ok (H : Sound prog K n r) {v : Option Expr} {p : Pos} {z : Out} {σ' : S} {o' : Orc} {g : List Prop} (h : stRet r f v σ o = some (z, σ', o', g)) (hg : ∀ p ∈ g, p) : EvS prog K f (n + 1) (.Return v p) σ z σ' := by
  cases v with
  | none => exact no_ h
  | some e =>
    have h : bnd (r.e f e σ o) (fun x σ o => ret (.ret x) σ o) = some (z, σ', o', g) := h
    obtain ⟨y, σ₁, o₁, g1, g2, h1, h, k1⟩ := bnd_some h
    exact finS h (.ret (H.e' h1 (k1 hg).1))
theorem stAsgs_ok (HT : TabOk K T) (H : Sound prog K n r) {ts : List Expr} {v : Expr} {p : Pos} {z : Out} {σ' : S} {o' : Orc} {g : List Prop} (h : stAsgs T r f ts v σ o = some (z, σ', o', g)) (hg : ∀ p ∈ g, p) : EvS prog K f (n + 1) (.Assign ts v p) σ z σ' := by
  rcases ts with _ | ⟨t, _ | ⟨t', ts⟩⟩
  · exact no_ h
  · exact stAssign_ok HT H h hg
  · exact no_ h
theorem stS_ok (HT : TabOk K T) (H : Sound prog K n r) {st : Stmt} {z : Out} {σ' : S} {o' : Orc} {g : List Prop} (h : stS prog K (n + 1) T r f st σ o = some (z, σ', o', g)) (hg : ∀ p ∈ g, p) : EvS prog K f (n + 1) st σ z σ' := by
  cases st with
  | Expr => exact stEx_ok H h hg
  | Pass => cases h; exact .pass
  | Continue => cases h; exact .cont
  | Return => exact stRet_ok H h hg
  | Assign => exact stAsgs_ok HT H h hg
  | AugAssign => exact stAug_ok HT H h hg
  | If => exact stIf_ok H h hg
  | For => exact askS_ok h hg
  | While => exact askS_ok h hg
  | _ => exact no_ h
noncomputable def isNext : Out → Bool
  | .next => true
  | _ => false
noncomputable def stB (prog : Program) (K : Params → Frag) (n : Nat) (T : Tab) (r : Ev) (f : Fx) : List Stmt → S → Orc → R Out
  | [], σ, o => ret .next σ o
  | st :: rest, σ, o => bnd (stS prog K n T r f st σ o) fun z σ o => match isNext z with
    | true => stB prog K n T r f rest σ o
    | false => ret z σ o
theorem stB_ok (HT : TabOk K T) (H : Sound prog K n r) : ∀ {b : List Stmt} {σ : S} {o : Orc} {z : Out} {σ' : S} {o' : Orc} {g : List Prop}, stB prog K (n + 1) T r f b σ o = some (z, σ', o', g) → (∀ p ∈ g, p) → EvB prog K f (n + 1) b σ z σ'
  | [], σ, o, z, σ', o', g, h, hg => by cases h; exact .nil
  | st :: rest, σ, o, z, σ', o', g, h, hg => by
    replace h := bnd_some h
    obtain ⟨y, σ₁, o₁, g1, g2, h1, h, k1⟩ := h
    have k1 := k1 hg
    have E1 := stS_ok HT H h1 k1.1
    cases e : isNext y with
    | true =>
      rw [e] at h
      have : y = .next := by cases y <;> first | rfl | cases e
      rw [this] at E1
      exact .cons E1 (stB_ok HT H h k1.2)
    | false =>
      rw [e] at h
      cases h
      exact .stop E1 fun q => by rw [q] at e; cases e
noncomputable def retOf : Out → AV
  | .ret v => v
  | _ => .val .none
noncomputable def stC (T : Tab) (r : Ev) (fa : Addr) (args : List AV) (objs : List AO) (o : Orc) : Option (AV × List AO × Orc × List Prop) := opt (fnAt fa T.fns) fun F => tst (Nat.beq args.length F.xs.length) (match r.b ⟨F.cs, true⟩ F.body ⟨objs, locs0 F.xs args F.rest, []⟩ o with
  | none => none
  | some (z, σ', o', g) => some (retOf z, σ'.objs, o', g))
theorem stC_ok (HT : TabOk K T) (H : Sound prog K n r) {fa : Addr} {args : List AV} {objs objs' : List AO} {x : AV} {o' : Orc} {g : List Prop} (h : stC T r fa args objs o = some (x, objs', o', g)) (hg : ∀ p ∈ g, p) : CallT prog K n fa args objs x objs' ∧ ∀ P, keepIn (K P) (.ref fa) = true ∧ fnIn (K P) fa = true := by
  replace h := opt_some h
  obtain ⟨F, hF, h⟩ := h
  replace h := tst_some h
  obtain ⟨hl, h⟩ := h
  obtain ⟨m1, m2⟩ := fnAt_mem hF
  cases e : r.b ⟨F.cs, true⟩ F.body ⟨objs, locs0 F.xs args F.rest, []⟩ o with
  | none => rw [e] at h; first | exact no_ h | cases h
  | some p =>
    obtain ⟨z, σ', o'', g'⟩ := p
    rw [e] at h
    cases h
    rw [← m2]
    refine ⟨callT_of (HT.fns F m1).1 (Nat.eq_of_beq_eq_true hl) (H.b e hg) ?_ rfl, (HT.fns F m1).2⟩
    cases z <;> rfl
noncomputable def stepEv (prog : Program) (K : Params → Frag) (T : Tab) (n : Nat) (r : Ev) : Ev := { e := stE T r, t := stTst r, b := stB prog K n T r, c := stC T r }
noncomputable def noEv : Ev := { e := fun _ _ _ _ => none, t := fun _ _ _ _ => none, b := fun _ _ _ _ => none, c := fun _ _ _ _ => none }
noncomputable def evN (prog : Program) (K : Params → Frag) (T : Tab) : Nat → Ev
  | 0 => noEv
  | n + 1 => stepEv prog K T (n + 1) (evN prog K T n)
theorem evN_ok (HT : TabOk K T) : ∀ n, Sound prog K n (evN prog K T n)
  | 0 => ⟨fun h => (nomatch h), fun h => (nomatch h), fun h => (nomatch h), fun h => (nomatch h)⟩
  | n + 1 => by
    have H := evN_ok HT n
    refine ⟨fun h hg => stE_ok HT H h hg, fun h hg => stTst_ok H h hg, fun h hg => stB_ok HT H h hg, fun h hg => ?_⟩
    obtain ⟨h1, h2⟩ := stC_ok HT H h hg
    exact ⟨h1.more (Nat.le_succ _), h2⟩
end
end Mine
/-! text M11 -/
open PySem PySem.W PyProof.Rows PySem.Spec PySem.Calls
set_option Elab.async false
set_option maxRecDepth 100000
namespace Mine
/-! what is no longer asked is dropped -/
noncomputable def limV (n : Nat) : AV → Bool
  | .obj i => Nat.blt i n
  | _ => true
noncomputable def limO (n : Nat) : AO → Bool
  | .list xs => xs.all (limV n)
  | .il _ => true
  | .tup xs => xs.all (limV n)
  | .dict es => es.all fun p => limV n p.2
  | .inst _ d => Nat.blt d n
  | .attrs es => es.all fun p => limV n p.2
  | .meth _ x => limV n x
  | .cell (some x) => limV n x
  | .cell none => true
  | .rng _ _ _ => true
  | .junk => true
theorem blt_of {i n : Nat} (h : Nat.blt i n = true) : i < n := Nat.le_of_ble_eq_true h
theorem take_get {as : List Addr} {i n : Nat} {a : Addr} (h : as[i]? = some a) (hi : i < n) : (as.take n)[i]? = some a := by
  rw [List.getElem?_take]; simp [hi, h]
theorem RV.down {as : List Addr} {n : Nat} {x : AV} {v : Value} (r : RV as x v) (h : limV n x = true) : RV (as.take n) x v := by
  cases x with
  | obj i => obtain ⟨a, h1, h2⟩ := r; exact ⟨a, take_get h1 (blt_of h), h2⟩
  | _ => exact r
theorem RVs.down {as : List Addr} {n : Nat} {xs : List AV} {vs : List Value} (r : RVs as xs vs) (h : xs.all (limV n) = true) : RVs (as.take n) xs vs := by
  induction r with
  | nil => exact .nil
  | cons r _ ih =>
    rw [List.all_cons, Bool.and_eq_true] at h
    exact .cons (r.down h.1) (ih h.2)
theorem REs.down {P : Params} {as : List Addr} {n : Nat} {xs : List (Str × AV)} {vs : List DictEntry} (r : REs P as xs vs) (h : (xs.all fun p => limV n p.2) = true) : REs P (as.take n) xs vs := by
  induction r with
  | nil => exact .nil
  | cons r _ ih =>
    rw [List.all_cons, Bool.and_eq_true] at h
    obtain ⟨t, v, e, r⟩ := r
    exact .cons ⟨t, v, e, r.down h.1⟩ (ih h.2)
theorem RO.down {P : Params} {as : List Addr} {n : Nat} {x : AO} {o : Obj} (r : RO P as x o) (h : limO n x = true) : RO P (as.take n) x o := by
  cases x with
  | list xs => obtain ⟨vs, n', d, r⟩ := r; exact ⟨vs, n', d, r.down h⟩
  | il xs => exact r
  | tup xs => obtain ⟨vs, n', d, r⟩ := r; exact ⟨vs, n', d, r.down h⟩
  | dict es => obtain ⟨l, n', e, r, k⟩ := r; exact ⟨l, n', e, r.down h, k⟩
  | inst C d => obtain ⟨a, e, r⟩ := r; exact ⟨a, take_get e (blt_of h), r⟩
  | attrs es => obtain ⟨l, n', e, r, k⟩ := r; exact ⟨l, n', e, r.down h, k⟩
  | meth f x => obtain ⟨v, r, e⟩ := r; exact ⟨v, r.down h, e⟩
  | cell v =>
    obtain ⟨u, e, r⟩ := r
    refine ⟨u, e, ?_⟩
    cases v <;> cases u <;> first | exact RV.down r h | exact r
  | rng a b c => exact r
  | junk => trivial
theorem RV.lim {as : List Addr} {x : AV} {v : Value} (r : RV as x v) : limV as.length x = true := by
  cases x with
  | obj i =>
    obtain ⟨a, h1, _⟩ := r
    exact Nat.ble_eq_true_of_le (List.getElem?_eq_some_iff.mp h1).1
  | _ => rfl
theorem limV.mono {n m : Nat} {x : AV} (h : limV n x = true) (le : n ≤ m) : limV m x = true := by
  cases x with
  | obj i => exact Nat.ble_eq_true_of_le (Nat.le_trans (blt_of h) le)
  | _ => rfl
theorem At.drop {c : Cx} {as : List Addr} {os : List Obj} {m : Str → Option Value} {σ : S} {s : Shared} (R : At c as os m σ s) (n : Nat) (h1 : (σ.objs.take n).all (limO n) = true) (h2 : ∀ x av, (x, some av) ∈ σ.locs → limV n av = true) (h3 : ∀ x i, (x, i) ∈ σ.cells → i < n) :
    At c (as.take n) (os.take n) m { σ with objs := σ.objs.take n } s :=
  { gens := R.gens, os_ := R.os_, fr := R.fr
    news := fun p hp => R.news p (by
      rcases List.mem_append.mp hp with h | h
      · rw [show (as.take n).zip (os.take n) = (as.zip os).take n from (List.take_zipWith ..).symm] at h
        exact List.mem_append_left _ (List.mem_of_mem_take h)
      · exact List.mem_append_right _ h)
    len := by rw [List.length_take, List.length_take, R.len]
    len' := by rw [List.length_take, List.length_take, R.len']
    nodup := by
      have := R.nodup
      rw [List.nodup_append] at this ⊢
      exact ⟨this.1.sublist (List.take_sublist ..), this.2.1, fun a ha b hb => this.2.2 a (List.mem_of_mem_take ha) b hb⟩
    objs := fun i ao o e1 e2 => by
      rw [List.getElem?_take] at e1 e2
      by_cases hi : i < n
      · rw [if_pos hi] at e1 e2
        refine (R.objs i ao o e1 e2).down (List.all_eq_true.mp h1 ao (List.mem_of_getElem? (i := i) ?_))
        rw [List.getElem?_take, if_pos hi]; exact e1
      · rw [if_neg hi] at e1; cases e1
    locs := fun x av h => let ⟨v, e1, e2⟩ := R.locs x av h; ⟨v, e1, e2.down (h2 x av h)⟩
    keys := R.keys
    cells := fun x i h => let ⟨a, e1, e2⟩ := R.cells x i h; ⟨a, e1, take_get e2 (h3 x i h)⟩
    comp := R.comp }
section
variable {prog : Program} {K : Params → Frag} {d : Nat}
theorem CallT.drop {fa : Addr} {args : List AV} {objs objs' : List AO} {x : AV} (h : CallT prog K d fa args objs x objs') (n : Nat) (hn : objs.length ≤ n) (hx : limV n x = true) (ho : (objs'.take n).all (limO n) = true) :
    CallT prog K d fa args objs x (objs'.take n) := by
  intro f c σ hf ok hσ as os m s vs Q E R rvs hq
  refine h f c σ hf ok hσ as os m s vs Q E R rvs fun bs os' m' v s' rv R' => ?_
  have la : as.length ≤ n := by rw [← R.len', hσ]; exact hn
  have R'' := R'.drop n ho (fun y av hm => by
    obtain ⟨u, _, r⟩ := R.locs y av hm
    exact limV.mono r.lim la) (fun y i hm => by
    obtain ⟨a, _, e⟩ := R.cells y i hm
    exact Nat.lt_of_lt_of_le (List.getElem?_eq_some_iff.mp e).1 la)
  have e : (as ++ bs).take n = as ++ bs.take (n - as.length) := by
    rw [List.take_append, List.take_of_length_le la]
  rw [e] at R''
  refine hq _ _ _ _ _ ?_ R''
  rw [← e]
  exact rv.down hx
/-- less may be told of the objects -/
noncomputable def WkO (a b : AO) : Prop := ∀ P as o, RO P as a o → RO P as b o
noncomputable def WkV (a b : AV) : Prop := ∀ as v, RV as a v → RV as b v
inductive WkOs : List AO → List AO → Prop
  | nil : WkOs [] []
  | cons {a b as bs} : WkO a b → WkOs as bs → WkOs (a :: as) (b :: bs)
theorem WkOs.length {l l' : List AO} (h : WkOs l l') : l.length = l'.length := by
  induction h with
  | nil => rfl
  | cons _ _ ih => simp [ih]
theorem WkOs.get {l l' : List AO} (h : WkOs l l') : ∀ (i : Nat) (b : AO), l'[i]? = some b → ∃ a, l[i]? = some a ∧ WkO a b := by
  induction h with
  | nil => intro i b h; simp at h
  | cons w _ ih =>
    intro i b h
    cases i with
    | zero => simp at h; subst h; exact ⟨_, rfl, w⟩
    | succ i => exact ih i b (by simpa using h)
theorem At.weak {c : Cx} {as : List Addr} {os : List Obj} {m : Str → Option Value} {σ : S} {s : Shared} {objs' : List AO} (R : At c as os m σ s) (w : WkOs σ.objs objs') : At c as os m { σ with objs := objs' } s :=
  { R with
    len' := by rw [← R.len']; exact w.length.symm
    objs := fun i ao o e1 e2 => by
      obtain ⟨a, h1, h2⟩ := w.get i ao e1
      exact h2 _ _ _ (R.objs i a o h1 e2) }
theorem CallT.wk {fa : Addr} {args : List AV} {objs objs' objs'' : List AO} {x : AV} (h : CallT prog K d fa args objs x objs') (w : WkOs objs' objs'') : CallT prog K d fa args objs x objs'' := by
  intro f c σ hf ok hσ as os m s vs Q E R rvs hq
  exact h f c σ hf ok hσ as os m s vs Q E R rvs fun bs os' m' v s' rv R' => hq _ _ _ _ _ rv (R'.weak w)
theorem WkO.refl {a : AO} : WkO a a := fun _ _ _ h => h
inductive WkEs : List (Str × AV) → List (Str × AV) → Prop
  | nil : WkEs [] []
  | cons {k a b as bs} : WkV a b → WkEs as bs → WkEs ((k, a) :: as) ((k, b) :: bs)
theorem WkEs.keys {l l' : List (Str × AV)} (h : WkEs l l') : l'.map (·.1) = l.map (·.1) := by
  induction h with
  | nil => rfl
  | cons _ _ ih => simp [ih]
theorem WkEs.rel {P : Params} {as : List Addr} {l l' : List (Str × AV)} (h : WkEs l l') : ∀ {es : List DictEntry}, REs P as l es → REs P as l' es := by
  induction h with
  | nil => exact fun h => h
  | cons w _ ih =>
    intro es r
    cases r with
    | cons r rs =>
      obtain ⟨t, v, e, r⟩ := r
      exact .cons ⟨t, v, e, w _ _ r⟩ (ih rs)
theorem WkEs.attrs {l l' : List (Str × AV)} (h : WkEs l l') : WkO (.attrs l) (.attrs l') := fun P as o ⟨es, n, e, r, k⟩ => ⟨es, n, e, h.rel r, by rw [h.keys]; exact k⟩
theorem WkV.refl {a : AV} : WkV a a := fun _ _ h => h
theorem WkEs.refl : ∀ {l : List (Str × AV)}, WkEs l l
  | [] => .nil
  | (_, _) :: _ => .cons .refl .refl
theorem WkV.top {a : AV} : WkV a .top := fun _ _ _ => trivial
theorem WkV.anyC {i : Int} : WkV (.cint i) .any := fun _ _ ⟨t, h⟩ => ⟨i, t, h⟩
theorem WkV.anyI {i : Int} : WkV (.int i) .any := fun _ _ ⟨t, h⟩ => ⟨i, t, h⟩
theorem WkV.intC {i : Int} : WkV (.cint i) (.int i) := fun _ _ h => h
end
end Mine
/-! text M12 -/
open PySem PySem.W PyProof.Rows PySem.Spec PySem.Calls
set_option Elab.async false
set_option maxRecDepth 100000
namespace Mine
/-! dicts with str keys -/
inductive RKV (as : List Addr) : List (Str × AV) → List (Str × Value) → Prop
  | nil : RKV as [] []
  | cons {k x v xs vs} : RV as x v → RKV as xs vs → RKV as ((k, x) :: xs) ((k, v) :: vs)
theorem RKV.keys {as : List Addr} {es : List (Str × AV)} {kvs : List (Str × Value)} (h : RKV as es kvs) : kvs.map (·.1) = es.map (·.1) := by
  induction h with
  | nil => rfl
  | cons _ _ ih => simp [ih]
theorem RKV.look {as : List Addr} {es : List (Str × AV)} {kvs : List (Str × Value)} (h : RKV as es kvs) {k : Str} {x : AV} (e : Mine.look k es = some x) : ∃ v, valueAt kvs k = some v ∧ RV as x v := by
  induction h with
  | nil => cases e
  | @cons k' y v xs vs r rs ih =>
    unfold Mine.look at e
    unfold valueAt
    rw [List.find?_cons]
    cases q : Fast.sEq k' k with
    | true =>
      rw [q] at e
      cases e
      have := Fast.sEq_iff.mp q
      subst this
      exact ⟨v, by simp, r⟩
    | false =>
      rw [q] at e
      have ne : k' ≠ k := fun h => by rw [Fast.sEq_iff.mpr h] at q; cases q
      simp only [ne, decide_false]
      exact ih e
theorem RKV.lookN {as : List Addr} {es : List (Str × AV)} {kvs : List (Str × Value)} (h : RKV as es kvs) {k : Str} (e : Mine.look k es = none) : valueAt kvs k = none := by
  induction h with
  | nil => rfl
  | @cons k' y v xs vs r rs ih =>
    unfold Mine.look at e
    unfold valueAt
    rw [List.find?_cons]
    cases q : Fast.sEq k' k with
    | true => rw [q] at e; cases e
    | false =>
      rw [q] at e
      have ne : k' ≠ k := fun h => by rw [Fast.sEq_iff.mpr h] at q; cases q
      simp only [ne, decide_false]
      exact ih e
theorem map_same {k : Str} {v : Value} : ∀ {kvs : List (Str × Value)}, k ∉ kvs.map (·.1) → kvs.map (fun kv => if kv.1 = k then (kv.1, v) else kv) = kvs
  | [], _ => rfl
  | (k', u) :: r, h => by
    have h1 : k' ≠ k := fun e => h (by rw [e]; exact .head _)
    have h2 : k ∉ r.map (·.1) := fun e => h (.tail _ e)
    simp only [List.map_cons, h1, if_false]
    rw [map_same h2]
theorem RKV.store {as : List Addr} {k : Str} {x : AV} {v : Value} (rv : RV as x v) {es : List (Str × AV)} {kvs : List (Str × Value)} (h : RKV as es kvs) : (es.map (·.1)).Nodup → RKV as (setA k x es) (stored kvs k v) := by
  induction h with
  | nil => intro _; exact .cons rv .nil
  | @cons k' y u xs vs r rs ih =>
    intro nd
    have nd' := List.nodup_cons.mp (show (k' :: xs.map (·.1)).Nodup from nd)
    unfold setA
    cases q : Fast.sEq k' k with
    | true =>
      have := Fast.sEq_iff.mp q
      subst this
      unfold stored
      have e1 : ((k', u) :: vs).any (fun kv => decide (kv.1 = k')) = true := by simp
      rw [if_pos e1]
      have : vs.map (fun kv => if kv.1 = k' then (kv.1, v) else kv) = vs := map_same (by rw [rs.keys]; exact nd'.1)
      simp only [List.map_cons, if_true, this]
      exact .cons rv rs
    | false =>
      have ne : k' ≠ k := fun h => by rw [Fast.sEq_iff.mpr h] at q; cases q
      have ih := ih nd'.2
      have e : stored ((k', u) :: vs) k v = (k', u) :: stored vs k v := by
        unfold stored
        simp only [List.any_cons, ne, decide_false, Bool.false_or]
        split
        · simp [ne]
        · rfl
      rw [e]
      exact .cons r ih
theorem dict_is {prog : Program} {w : World} {as : List Addr} {es : List (Str × AV)} {l : List DictEntry} {n : Nat} (r : REs w.params as es l) (nd : (es.map (·.1)).Nodup) : ∃ kvs, (dictOf l n).IsDictOf (strKind prog w) kvs ∧ RKV as es kvs := by
  have key : ∃ kvs, KeysOf (strKind prog w) l.toArray ∧ Pairs (strKind prog w) l kvs ∧ RKV as es kvs := by
    clear nd
    induction r with
    | nil => exact ⟨[], fun e h => by simp at h, .nil, .nil⟩
    | @cons p ps e es r rs ih =>
      obtain ⟨t, v, rfl, rv⟩ := r
      obtain ⟨k, x⟩ := p
      obtain ⟨kvs, h1, h2, h3⟩ := ih
      refine ⟨(k, v) :: kvs, fun e he => ?_, .cons (strKind_is prog w k t) rfl h2, .cons rv h3⟩
      rw [List.mem_toArray] at he
      rcases List.mem_cons.mp he with rfl | he
      · exact ⟨k, strKind_is prog w k t, rfl⟩
      · exact h1 e (by rw [List.mem_toArray]; exact he)
  obtain ⟨kvs, h1, h2, h3⟩ := key
  exact ⟨kvs, ⟨l.toArray, n, ⟨rfl, rfl, rfl⟩, rfl, h1, by simpa using h2, by rw [h3.keys]; exact nd⟩, h3⟩
theorem of_dict {prog : Program} {w : World} {as : List Addr} {es : List (Str × AV)} {o : Obj} {kvs : List (Str × Value)} (h : o.IsDictOf (strKind prog w) kvs) (r : RKV as es kvs) : RO w.params as (.dict es) o := by
  obtain ⟨l, ep, ⟨e1, e2, e3⟩, e4, h1, h2, nd⟩ := h
  refine ⟨l.toList, ep, ?_, ?_, by rw [← r.keys]; exact nd⟩
  · obtain ⟨c, dd, dt, sl⟩ := o
    cases e1; cases e2; cases e3; cases e4
    simp
  · have hk : ∀ e ∈ l.toList, ∃ k, (strKind prog w).is k e.key = true ∧ e.hash = (strKind prog w).hash k := fun e he => h1 e (by simpa using he)
    clear h1 nd e4
    generalize l.toList = l' at h2 hk
    induction r generalizing l' with
    | nil => cases h2; exact .nil
    | cons rv _ ih =>
      cases h2 with
      | @cons e kv es kvs g1 g2 g3 =>
        refine .cons ?_ (ih _ g3 fun e he => hk e (.tail _ he))
        obtain ⟨k', q1, q2⟩ := hk _ (.head _)
        have := (strKind prog w).inj _ _ _ g1 q1
        dsimp only at this
        subst this
        obtain ⟨t, ht⟩ := Value.isStrOf_shape g1
        obtain ⟨hh, kk, vv⟩ := e
        dsimp only at ht g2 q2
        subst ht g2 q2
        exact ⟨t, _, rfl, rv⟩
section
variable {prog : Program} {K : Params → Frag} {f : Fx} {d : Nat} {σ σ₁ σ₂ σ₃ : S}
theorem At.low {c : Cx} {as : List Addr} {os : List Obj} {m : Str → Option Value} {s : Shared} (one : ∀ P, ((K P).lookup sysModules).isSome = true) (ok : Ok K f d c) (R : At c as os m σ s) {p : Addr × Obj} (hp : p ∈ as.zip os ++ c.rest) : (p.1 == sysModules) = false := by
  rw [beq_eq_false_iff_ne]
  intro e
  have h2 := (R.news p hp).2.2
  obtain ⟨o, ho⟩ := Option.isSome_iff_exists.mp (one c.w.params)
  have := ok.kin _ _ ho
  rw [e, this] at h2
  cases h2
/-- what a dict holds under a str -/
theorem EvE.subD {value slice : Expr} {pos : Pos} {y : AV} {i : Nat} {es : List (Str × AV)} {k : Str} {z : AV} (h1 : EvE prog K f d value σ (.obj i) σ₁) (h2 : EvE prog K f d slice σ₁ y σ₂) (hn : notSlice slice = true) (hy : y.s? = some k) (hi : σ₂.objs[i]? = some (.dict es))
    (hz : look k es = some z) : EvE prog K f d (.Subscript value slice pos) σ z σ₂ := by
  refine .subAt h1 h2 fun c as os m s Q E a b ok R ra rb hq => ?_
  obtain ⟨q, o, g1, _, gm, g2, l, n, rfl, g3, g4⟩ := R.obj hi
  obtain ⟨q', g1', rfl⟩ := ra
  rw [g1] at g1'; cases g1'
  obtain ⟨t, rfl⟩ : ∃ t, b = .str k t := by cases y <;> first | (cases hy; exact rb) | cases hy
  obtain ⟨kvs, e1, e2⟩ := dict_is (prog := prog) (w := c.w) g3 g4
  obtain ⟨v, e3, rv⟩ := e2.look hz
  have hd : s.heap.DictOf (strKind prog c.w) q kvs := Heap.dictOf_iff.mpr ⟨_, g2, e1⟩
  exact tail_any hd.typeIs slot_dict_getitem.lookup (wpAny_getItem_of (strKind_is prog c.w k t) hd.mapOf e3 (hq _ _ rv)) (subscripted_plain hn)
/-- is a str in a dict -/
theorem EvE.cmpAt {op : CmpOp} {l r : Expr} {pos : Pos} {x y z : AV} (h1 : EvE prog K f d l σ x σ₁) (h2 : EvE prog K f d r σ₁ y σ₂) (hm : behindInMarks op r = false)
    (h : ∀ (c : Cx) (as : List Addr) (os : List Obj) (m : Str → Option Value) (s : Shared) (Q E : Value → Shared → Prop) (a b : Value), Ok K f d c → At c as os m σ₂ s → RV as x a → RV as y b → (∀ v t, RV as z v → Q v { s with toks := t }) → wpAny (model prog c.w) c.A (compareOp op a b) Q E s) :
    EvE prog K f d (.Compare l [op] [r] pos) σ z σ₂ := by
  intro c ok as os m s Q E R hq
  refine wpAny_Compare1 (h1 c ok as os m s _ E R fun bs os₁ m₁ a s₁ ra R₁ => ?_) hm
  refine h2 c ok _ os₁ m₁ s₁ _ E R₁ fun bs₂ os₂ m₂ b s₂ rb R₂ => ?_
  refine h c (as ++ bs ++ bs₂) os₂ m₂ s₂ Q E a b ok R₂ ra.up rb fun v t rv => ?_
  rw [List.append_assoc] at rv R₂
  exact hq (bs ++ bs₂) os₂ m₂ v _ rv (R₂.toks t)
theorem EvT.cmpAt {op : CmpOp} {l r : Expr} {pos : Pos} {x y z : AV} {b k : Bool} (h1 : EvE prog K f d l σ x σ₁) (h2 : EvE prog K f d r σ₁ y σ₂) (hm : behindInMarks op r = false)
    (h : ∀ (c : Cx) (as : List Addr) (os : List Obj) (m : Str → Option Value) (s : Shared) (Q E : Value → Shared → Prop) (a b : Value), Ok K f d c → At c as os m σ₂ s → RV as x a → RV as y b → (∀ v t, RV as z v → Q v { s with toks := t }) → wpAny (model prog c.w) c.A (compareOp op a b) Q E s)
    (ht : truthV z = some (b, k)) : EvT prog K f d (.Compare l [op] [r] pos) σ b σ₂ := by
  intro c ok as os m s Q E R hq
  refine wpAny_isTrue_Compare1 (h1 c ok as os m s _ E R fun bs os₁ m₁ a s₁ ra R₁ => ?_) hm
  refine h2 c ok _ os₁ m₁ s₁ _ E R₁ fun bs₂ os₂ m₂ v s₂ rb R₂ => ?_
  refine h c (as ++ bs ++ bs₂) os₂ m₂ s₂ _ E a v ok R₂ ra.up rb fun v t rv => ?_
  rw [List.append_assoc] at R₂
  exact truth_of ht rv (hq _ _ _ _ (R₂.toks t))
/-- a comparison of told values, of all kinds -/
noncomputable def CmpAt (prog : Program) (K : Params → Frag) (f : Fx) (d : Nat) (op : CmpOp) (σ : S) (x y z : AV) : Prop :=
  ∀ (c : Cx) (as : List Addr) (os : List Obj) (m : Str → Option Value) (s : Shared) (Q E : Value → Shared → Prop) (a b : Value), Ok K f d c → At c as os m σ s → RV as x a → RV as y b → (∀ v t, RV as z v → Q v { s with toks := t }) → wpAny (model prog c.w) c.A (compareOp op a b) Q E s
theorem CmpAt.plain {op : CmpOp} {x y z : AV} (h : cmpV op x y = some z) : CmpAt prog K f d op σ x y z := fun c as os m s Q E a b _ _ ra rb hq => cmpV_of h c.w c.A as a b s Q E ra rb fun v rv => hq v s.toks rv
theorem CmpAt.inD {x y : AV} {i : Nat} {es : List (Str × AV)} {k : Str} (one : ∀ P, ((K P).lookup sysModules).isSome = true) (hx : x.s? = some k) (hy : y = .obj i) (hi : σ.objs[i]? = some (.dict es)) : CmpAt prog K f d .In σ x y (.cb (look k es).isSome) := by
  intro c as os m s Q E a b ok R ra rb hq
  subst hy
  obtain ⟨q, o, g1, _, gm, g2, l, n, rfl, g3, g4⟩ := R.obj hi
  obtain ⟨q', g1', rfl⟩ := rb
  rw [g1] at g1'; cases g1'
  obtain ⟨t, rfl⟩ : ∃ t, a = .str k t := by cases x <;> first | (cases hx; exact ra) | cases hx
  obtain ⟨kvs, e1, e2⟩ := dict_is (prog := prog) (w := c.w) g3 g4
  have hd : s.heap.DictOf (strKind prog c.w) q kvs := Heap.dictOf_iff.mpr ⟨_, g2, e1⟩
  refine wpAny_in_of (strKind_is prog c.w k t) (R.low one ok gm) hd.mapOf (hq _ _ ?_)
  cases e : look k es with
  | none => rw [e2.lookN e]; rfl
  | some z => obtain ⟨v, e3, _⟩ := e2.look e; rw [e3]; rfl
/-- a store into a dict -/
theorem EvS.setD {o i : Expr} {pos' pos : Pos} {value : Expr} {x y : AV} {j : Nat} {es : List (Str × AV)} {k : Str} (h : EvE prog K f d value σ x σ₁) (h1 : EvE prog K f d o σ₁ (.obj j) σ₂) (h2 : EvE prog K f d i σ₂ y σ₃) (hy : y.s? = some k) (hj : σ₃.objs[j]? = some (.dict es))
    (hz : es.length ≤ 1000) (hs : ∀ env : Env, swapsWith value (some (.Subscript o i pos')) pos.line env = pure false) :
    EvS prog K f d (.Assign [.Subscript o i pos'] value pos) σ .next { σ₃ with objs := σ₃.objs.set j (.dict (setA k x es)) } := by
  intro c ok as os m s Q E R hq
  refine wpAny_Assign_Subscript (h c ok as os m s _ E R fun bs os₁ m₁ v s₁ rv R₁ => ?_) (hs _)
  refine h1 c ok _ os₁ m₁ s₁ _ E R₁ fun bs₂ os₂ m₂ w s₂ rw R₂ => ?_
  refine h2 c ok _ os₂ m₂ s₂ _ E R₂ fun bs₃ os₃ m₃ u s₃ ru R₃ => ?_
  obtain ⟨t, rfl⟩ : ∃ t, u = .str k t := by cases y <;> first | (cases hy; exact ru) | cases hy
  obtain ⟨a, ha, rfl⟩ := rw
  obtain ⟨a', ob, g1, g2, gm, g4, l, n, rfl, g5, g6⟩ := R₃.obj hj
  have g1' := getElem?_app (r := bs₃) ha
  rw [g1'] at g1
  cases g1
  obtain ⟨kvs, e1, e2⟩ := dict_is (prog := prog) (w := c.w) g5 g6
  have hd : s₃.heap.DictOf (strKind prog c.w) a kvs := Heap.dictOf_iff.mpr ⟨_, g4, e1⟩
  have hl : kvs.length ≤ sizeLine := by
    have := congrArg List.length e2.keys
    simp only [List.length_map] at this
    rw [this]
    exact Nat.le_trans hz (by decide +kernel)
  refine wpAny_setItem_pairs (strKind_is prog c.w k t) hd (fun h' hd' hs' => ?_) hl
  obtain ⟨o', ho', hd''⟩ := Heap.dictOf_iff.mp hd'
  have rx : RV (as ++ bs ++ bs₂ ++ bs₃) x v := rv.up.up
  have R' := R₃.upd (s' := { s₃ with heap := h', toks := s₃.toks + 1 }) (i := j) (o' := o') (ao' := .dict (setA k x es)) rfl rfl (R₃.fr.change hs' (R₃.news _ gm).2.1 (R₃.news _ gm).2.2) (by
    have U := upd_zip (rest := c.rest) o' g1' g2 R₃.nodup
    obtain ⟨pre, post, q1, q2, d1, d2⟩ := U.split
    have N := R₃.news
    rw [q1] at N
    rw [q2]
    exact N.setAt d1 d2 hs' ho') (of_dict hd'' (e2.store rx g6))
  rw [List.append_assoc, List.append_assoc] at R'
  exact hq _ _ _ _ _ rfl R'
/-- a display of written strs and ints -/
noncomputable def strK : Option Expr → Option Str
  | some (.Constant c _ _) => match c with
    | .str x => some x
    | _ => none
  | _ => none
noncomputable def intV : Expr → Option Int
  | .Constant c _ _ => match c with
    | .int i => some i
    | _ => none
  | _ => none
noncomputable def constPairs : List (Option Expr) → List Expr → Option (List (Str × Int))
  | [], vs => match vs with
    | [] => some []
    | _ :: _ => none
  | k :: ks, vs => match vs with
    | [] => none
    | v :: vs => opt (strK k) fun x => opt (intV v) fun i => opt (constPairs ks vs) fun l => some ((x, i) :: l)
end
end Mine
/-! text M13 -/
open PySem PySem.W PyProof.Rows PySem.Spec PySem.Calls
set_option Elab.async false
set_option maxRecDepth 100000
namespace Mine
theorem intsAre_append {vs us : List Value} {xs ys : List Int} (h : IntsAre vs xs) (g : IntsAre us ys) : IntsAre (vs ++ us) (xs ++ ys) := h.append g
section
variable {prog : Program} {K : Params → Frag} {f : Fx} {d : Nat} {σ σ₁ σ₂ σ₃ : S}
/-- an object made -/
theorem At.made {c : Cx} {as : List Addr} {os : List Obj} {m : Str → Option Value} {s : Shared} {σ : S} {a : Addr} {o : Obj} {ao : AO} {h' : Heap} {tk : Nat} (R : At c as os m σ s) (F' : Fr c.h₀ c.L h' m) (N' : News c.h₀ c.L h' ((a, o) :: (as.zip os ++ c.rest))) (lt : ∀ p ∈ as.zip os ++ c.rest, p.1 < a)
    (r : RO c.w.params (as ++ [a]) ao o) : At c (as ++ [a]) (os ++ [o]) m { σ with objs := σ.objs ++ [ao] } { s with heap := h', toks := tk } ∧ RV (as ++ [a]) (.obj σ.objs.length) (.ref a) := by
  refine ⟨R.new (s' := { s with heap := h', toks := tk }) rfl rfl F' N' (not_mem_of_lt R.len lt) r, a, ?_, rfl⟩
  rw [R.len', List.getElem?_append_right (Nat.le_refl _), Nat.sub_self]
  rfl
theorem At.lt {c : Cx} {as : List Addr} {os : List Obj} {m : Str → Option Value} {s : Shared} {σ : S} (R : At c as os m σ s) : ∀ p ∈ as.zip os ++ c.rest, p.1 < s.heap.objs.size := fun p hp => Heap.lt_size (R.news p hp).1
theorem EvE.list {es : List Expr} {pos : Pos} {xs : List AV} (h : EvA prog K f d es σ xs σ₁) (hz : xs.length ≤ 1000) : EvE prog K f d (.List es pos) σ (.obj σ₁.objs.length) { σ₁ with objs := σ₁.objs ++ [.list xs] } := by
  intro c ok as os m s Q E R hq
  refine List_ (h c pos ok as os m s _ E R fun bs os₁ m₁ vs s₁ rvs R₁ => ?_)
  refine newList_K R₁.fr R₁.news (fun l h' F' N' lt => ?_) (Nat.le_trans (by rw [rvs.length]; exact hz) (by decide +kernel))
  obtain ⟨R₂, r⟩ := R₁.made (tk := s₁.toks) F' N' lt (ao := .list xs) ⟨_, _, rfl, by simpa using rvs.up⟩
  rw [List.append_assoc] at R₂ r
  exact hq _ _ _ _ _ r R₂
theorem EvE.tuple {es : List Expr} {k : Nat} {pos : Pos} {xs : List AV} (h : EvA prog K f d es σ xs σ₁) (hz : xs.length ≤ 1000) : EvE prog K f d (.Tuple es k pos) σ (.obj σ₁.objs.length) { σ₁ with objs := σ₁.objs ++ [.tup xs] } := by
  intro c ok as os m s Q E R hq
  refine Tuple_ (h c pos ok as os m s _ E R fun bs os₁ m₁ vs s₁ rvs R₁ => ?_)
  refine kup_newTuple R₁.fr R₁.news (fun l h' F' N' lt => ?_) (Nat.le_trans (by rw [rvs.length]; exact hz) (by decide +kernel))
  obtain ⟨R₂, r⟩ := R₁.made (tk := s₁.toks) F' N' lt (ao := .tup xs) ⟨_, _, rfl, by simpa using rvs.up⟩
  rw [List.append_assoc] at R₂ r
  exact hq _ _ _ _ _ r R₂
/-! displays of dicts -/
theorem EvE.dict0 {pos : Pos} : EvE prog K f d (.Dict [] [] pos) σ (.obj σ.objs.length) { σ with objs := σ.objs ++ [.dict []] } := by
  intro c ok as os m s Q E R hq
  obtain ⟨_, _, _, _, _, T⟩ := ok.top
  refine newDict_K R.fr R.news T.nolimit fun dd h' o F' N' lt _ hd _ _ _ => ?_
  obtain ⟨R₂, r⟩ := R.made (tk := s.toks) F' N' lt (ao := .dict []) (of_dict hd .nil)
  exact hq _ _ _ _ _ r R₂
inductive PairsAre : List (Value × Value) → List (Str × Int) → Prop
  | nil : PairsAre [] []
  | cons {k i t u vs l} : PairsAre vs l → PairsAre ((.str k t, .int i u) :: vs) ((k, i) :: l)
theorem strK_of {k : Option Expr} {x : Str} (h : strK k = some x) : ∃ kk kp, k = some (.Constant (.str x) kk kp) := by
  cases k with
  | none => exact no_ h
  | some e =>
    cases e with
    | Constant c kk kp =>
      cases c with
      | str y => cases h; exact ⟨kk, kp, rfl⟩
      | _ => exact no_ h
    | _ => exact no_ h
theorem intV_of {k : Expr} {x : Int} (h : intV k = some x) : ∃ kk kp, k = .Constant (.int x) kk kp := by
  cases k with
  | Constant c kk kp =>
    cases c with
    | int y => cases h; exact ⟨kk, kp, rfl⟩
    | _ => exact no_ h
  | _ => exact no_ h
theorem pairs_eval {c : Cx} {pos : Pos} : ∀ {ks : List (Option Expr)} {vs : List Expr} {l : List (Str × Int)} {s : Shared} {Q : List (Value × Value) → Shared → Prop} {E : Value → Shared → Prop}, constPairs ks vs = some l →
    (∀ ps t, PairsAre ps l → Q ps { s with toks := t }) → wpAny (model prog c.w) c.A (evalPairs (pairTrees ks vs c.env pos)) Q E s := by
  intro ks
  induction ks with
  | nil =>
    intro vs l s Q E h hq
    cases vs with
    | nil => cases h; exact pairTrees_nil_walk (hq [] s.toks .nil)
    | cons v vs => exact no_ h
  | cons k ks ih =>
    intro vs l s Q E h hq
    cases vs with
    | nil => exact no_ h
    | cons v vs =>
      have h : opt (strK k) (fun x => opt (intV v) fun i => opt (constPairs ks vs) fun l => some ((x, i) :: l)) = some l := h
      obtain ⟨x, h1, h⟩ := opt_some h
      obtain ⟨i, h2, h⟩ := opt_some h
      obtain ⟨l', h3, h4⟩ := opt_some h
      obtain ⟨kk, kp, rfl⟩ := strK_of h1
      obtain ⟨vk, vp, rfl⟩ := intV_of h2
      cases h4
      exact pairTrees_cons_walk (wpAny_Constant_str (wpAny_Constant_int (ih h3 fun ps t hp => hq _ _ (.cons hp))))
theorem PairsAre.strs {ps : List (Value × Value)} {l : List (Str × Int)} (h : PairsAre ps l) : allStrKeys ps = true ∧ (strPairs ps).map (·.1) = l.map (·.1) ∧ ∀ as, RKV as (l.map fun p => (p.1, AV.cint p.2)) (strPairs ps) := by
  induction h with
  | nil => exact ⟨rfl, rfl, fun _ => .nil⟩
  | cons _ ih =>
    obtain ⟨h1, h2, h3⟩ := ih
    refine ⟨by simpa [allStrKeys] using h1, by simp [strPairs, h2], fun as => ?_⟩
    simp only [strPairs, List.map_cons]
    exact .cons ⟨_, rfl⟩ (h3 as)
noncomputable def hasDup : List (Str × Int) → Bool
  | [] => false
  | (k, _) :: r => match look k r with
    | some _ => true
    | none => hasDup r
theorem hasDup_of : ∀ {l : List (Str × Int)}, hasDup l = false → (l.map (·.1)).Nodup
  | [], _ => .nil
  | (k, i) :: r, h => by
    unfold hasDup at h
    cases e : look k r with
    | some _ => rw [e] at h; first | exact no_ h | cases h
    | none =>
      rw [e] at h
      refine List.nodup_cons.mpr ⟨fun hm => ?_, hasDup_of h⟩
      rw [look_lookup] at e
      obtain ⟨p, hp, rfl⟩ := List.mem_map.mp hm
      have := List.lookup_eq_none_iff.mp e p hp
      simp at this
theorem EvE.dictC {ks : List (Option Expr)} {vs : List Expr} {pos : Pos} {l : List (Str × Int)} (h : constPairs ks vs = some l) (hd : hasDup l = false) (hall : ks.all (·.isSome) = true) (hl : ks.length = vs.length) (h0 : ks ≠ []) (hlen : ks.length ≤ 15) :
    EvE prog K f d (.Dict ks vs pos) σ (.obj σ.objs.length) { σ with objs := σ.objs ++ [.dict (l.map fun p => (p.1, .cint p.2))] } := by
  intro c ok as os m s Q E R hq
  refine Dict_made (knd := strKind prog c.w) R.fr hall hl h0 hlen fun F1 => pairs_eval h fun ps t hp => ?_
  obtain ⟨e1, e2, e3⟩ := hp.strs
  refine made_str (P := fun h' => Q (.ref s.heap.objs.size) { s with heap := h', toks := t + ps.length }) R.fr R.news e1 (by rw [e2]; exact hasDup_of hd) fun h' o F' N' hd' => ?_
  obtain ⟨R₂, r⟩ := R.made (tk := t + ps.length) F' N' R.lt (ao := .dict (l.map fun p => (p.1, .cint p.2))) (of_dict hd' (e3 _))
  exact hq _ _ _ _ _ r R₂
/-! lists of ints, in both forms -/
noncomputable def intsO : AO → Option (List Int)
  | .il xs => some xs
  | .list xs => allI xs
  | _ => none
theorem intsO_of {P : Params} {as : List Addr} {ao : AO} {o : Obj} {xs : List Int} (h : intsO ao = some xs) (r : RO P as ao o) : ∃ vs n, o = listOf vs n ∧ IntsAre vs.toList xs := by
  cases ao <;> first | exact no_ h | (cases h; done) | skip
  · obtain ⟨vs, n, e, r⟩ := r
    exact ⟨vs, n, e, allI_of r h⟩
  · cases h; exact r
/-! slices -/
noncomputable def partI (x : Option AV) : Option (Option Int) := match x with
  | none => some none
  | some x => match x.i? with
    | some i => some (some i)
    | none => none
noncomputable def EvP (prog : Program) (K : Params → Frag) (f : Fx) (d : Nat) (e : Option Expr) (σ : S) (k : Option Int) (σ' : S) : Prop := ∀ c : Cx, Ok K f d c → ∀ as os m s (Q : Value → Shared → Prop) (E : Value → Shared → Prop), At c as os m σ s →
  (∀ bs os' m' v s', IsPart v k → At c (as ++ bs) os' m' σ' s' → Q v s') → wpAny (model prog c.w) c.A (evalPart e c.env) Q E s
theorem EvP.none : EvP prog K f d none σ none σ := by
  intro c ok as os m s Q E R hq
  exact wpAny_pure (hq [] os m _ s .none (by rw [app_nil]; exact R))
theorem EvP.some {e : Expr} {x : AV} {i : Int} (h : EvE prog K f d e σ x σ₁) (hi : x.i? = some i) : EvP prog K f d (some e) σ (some i) σ₁ := by
  intro c ok as os m s Q E R hq
  exact h c ok as os m s Q E R fun bs os' m' v s' rv R' => by
    obtain ⟨t, rfl⟩ := rv.int_of hi
    exact hq _ _ _ _ _ (.int i t) R'
/-- the ints between -/
noncomputable def sliceI (xs : List Int) (lo hi : Option Int) : List Int := match lo, hi with
  | none, none => xs
  | some i, none => xs.drop i.toNat
  | none, some j => xs.take j.toNat
  | some i, some j => (xs.drop i.toNat).take (j - i).toNat
noncomputable def sliceG (xs : List Int) (lo hi : Option Int) : List Prop := match lo, hi with
  | none, none => []
  | some i, none => [0 ≤ i]
  | none, some j => [0 ≤ j]
  | some i, some j => [0 ≤ i ∧ i ≤ j ∧ j ≤ xs.length]
theorem slice_of {vs : Array Value} {xs : List Int} {lo hi : Option Int} (h : IntsAre vs.toList xs) (hg : ∀ p ∈ sliceG xs lo hi, p) : IntsAre (slicePick vs lo hi none).toList (sliceI xs lo hi) := by
  obtain ⟨l⟩ := vs
  cases lo with
  | none => cases hi with
    | none => exact slice_ints_all h
    | some j => exact slice_ints_uptoW h (hg _ (.head _))
  | some i => cases hi with
    | none => exact slice_ints_fromW h (hg _ (.head _))
    | some j =>
      obtain ⟨h1, h2, h3⟩ := hg _ (.head _)
      exact slice_ints h h1 h2 h3
theorem EvE.slice {v : Expr} {lo hi : Option Expr} {p pos : Pos} {i : Nat} {ao : AO} {xs : List Int} {kl kh : Option Int} (h : EvE prog K f d v σ (.obj i) σ₁) (h1 : EvP prog K f d lo σ₁ kl σ₂) (h2 : EvP prog K f d hi σ₂ kh σ₃) (ho : σ₃.objs[i]? = some ao) (hx : intsO ao = some xs)
    (hz : xs.length ≤ 60000) (hg : ∀ p ∈ sliceG xs kl kh, p) : EvE prog K f d (.Subscript v (.Slice lo hi none p) pos) σ (.obj σ₃.objs.length) { σ₃ with objs := σ₃.objs ++ [.il (sliceI xs kl kh)] } := by
  intro c ok as os m s Q E R hq
  refine Subscript_ (h c ok as os m s _ E R fun bs os₁ m₁ a s₁ ra R₁ => ?_)
  refine wpAny_Slice (h1 c ok _ os₁ m₁ s₁ _ E R₁ fun bs₂ os₂ m₂ vl s₂ pl R₂ => h2 c ok _ os₂ m₂ s₂ _ E R₂ fun bs₃ os₃ m₃ vh s₃ ph R₃ => ?_)
  refine wpAny_pure ?_
  obtain ⟨q, hq1, rfl⟩ := ra
  obtain ⟨q', o, g1, _, _, g2, r⟩ := R₃.obj ho
  rw [getElem?_app (r := bs₃) (getElem?_app (r := bs₂) hq1)] at g1
  cases g1
  obtain ⟨vs, n, rfl, hi⟩ := intsO_of hx r
  have hl : s₃.heap.IsList q vs := listOf_isList g2
  have hsz : vs.size ≤ sizeLine := by
    have := hi.length
    rw [Array.length_toList] at this
    rw [this]
    exact Nat.le_trans hz (by decide +kernel)
  have hl' : (s₃.heap.push { cls := .type "slice", data := .fields #[vl, vh, .none] }).IsList q vs := hl.push _
  refine tail_any (ops := [.ref s₃.heap.objs.size, .ref q]) (Heap.IsList.typeIs (s := { s₃ with heap := s₃.heap.push { cls := .type "slice", data := .fields #[vl, vh, .none] } }) hl') slot_list_getitem.lookup
    (wpAny_getItem_list_slice hl' (Heap.IsSliceOf.new ..) pl ph .none (by simp) ?_ hsz) rfl
  have F1 := R₃.fr.push { cls := .type "slice", data := .fields #[vl, vh, .none] }
  have N1 : News c.h₀ c.L (s₃.heap.push { cls := .type "slice", data := .fields #[vl, vh, .none] }) _ := R₃.news.grown fun _ _ e => Heap.get?_push_of_some _ e
  obtain ⟨R₄, r₄⟩ := R₃.made (tk := s₃.toks) (a := s₃.heap.objs.size + 1) (o := listOf (slicePick vs kl kh none) 0) (ao := .il (sliceI xs kl kh)) (F1.push { cls := .type "list", data := .seq (slicePick vs kl kh none) }) (by
      have N2 := News.push F1 N1 { cls := .type "list", data := .seq (slicePick vs kl kh none) }
      rw [Heap.size_push] at N2
      exact N2) (fun p hp => Nat.lt_succ_of_lt (R₃.lt p hp)) ⟨_, _, rfl, slice_of hi hg⟩
  rw [List.append_assoc, List.append_assoc, List.append_assoc] at R₄ r₄
  show Q (.ref (s₃.heap.push _).objs.size) _
  rw [Heap.size_push]
  exact hq _ _ _ _ _ r₄ R₄
/-! + and * of lists -/
theorem EvE.binAt {op : Operator} {l r : Expr} {pos : Pos} {x y z : AV} {σ' : S} (h1 : EvE prog K f d l σ x σ₁) (h2 : EvE prog K f d r σ₁ y σ₂)
    (h : ∀ (c : Cx) (as : List Addr) (os : List Obj) (m : Str → Option Value) (s : Shared) (Q E : Value → Shared → Prop) (a b : Value), Ok K f d c → At c as os m σ₂ s → RV as x a → RV as y b → (∀ bs os' m' v s', RV (as ++ bs) z v → At c (as ++ bs) os' m' σ' s' → Q v s') → wpAny (model prog c.w) c.A (binaryOp op a b) Q E s) :
    EvE prog K f d (.BinOp l op r pos) σ z σ' := by
  intro c ok as os m s Q E R hq
  refine wpAny_BinOp (h1 c ok as os m s _ E R fun bs os₁ m₁ a s₁ ra R₁ => ?_)
  refine h2 c ok _ os₁ m₁ s₁ _ E R₁ fun bs₂ os₂ m₂ b s₂ rb R₂ => ?_
  refine h c (as ++ bs ++ bs₂) os₂ m₂ s₂ Q E a b ok R₂ ra.up rb fun bs₃ os₃ m₃ v s₃ rv R₃ => ?_
  rw [List.append_assoc, List.append_assoc] at rv R₃
  exact hq _ _ _ _ _ rv R₃
theorem EvE.addL {l r : Expr} {pos : Pos} {i j : Nat} {ao bo : AO} {xs ys : List Int} (h1 : EvE prog K f d l σ (.obj i) σ₁) (h2 : EvE prog K f d r σ₁ (.obj j) σ₂) (hi : σ₂.objs[i]? = some ao) (hj : σ₂.objs[j]? = some bo) (hx : intsO ao = some xs) (hy : intsO bo = some ys)
    (hz : xs.length + ys.length ≤ 60000) : EvE prog K f d (.BinOp l .Add r pos) σ (.obj σ₂.objs.length) { σ₂ with objs := σ₂.objs ++ [.il (xs ++ ys)] } := by
  refine .binAt h1 h2 fun c as os m s Q E a b ok R ra rb hq => ?_
  obtain ⟨q, o, g1, _, _, g2, r1⟩ := R.obj hi
  obtain ⟨q', o', g1', _, _, g2', r2⟩ := R.obj hj
  obtain ⟨a', e1, rfl⟩ := ra
  obtain ⟨b', e2, rfl⟩ := rb
  rw [g1] at e1; cases e1
  rw [g1'] at e2; cases e2
  obtain ⟨vs, n, rfl, hi⟩ := intsO_of hx r1
  obtain ⟨us, n', rfl, hj⟩ := intsO_of hy r2
  refine add_arrays R.fr R.news (listOf_isList g2) (listOf_isList g2') (fun h' F' N' => ?_) ?_
  · obtain ⟨R₂, r⟩ := R.made (tk := s.toks) F' N' R.lt (ao := .il (xs ++ ys)) ⟨_, _, rfl, by simpa using hi.append hj⟩
    exact hq _ _ _ _ _ r R₂
  · have h1 := hi.length
    have h2 := hj.length
    rw [Array.length_toList] at h1 h2
    rw [h1, h2]
    exact Nat.le_trans hz (by decide +kernel)
theorem rep_ints {vs : List Value} {xs : List Int} (h : IntsAre vs xs) : ∀ n : Nat, IntsAre (List.replicate n vs).flatten (List.replicate n xs).flatten
  | 0 => .nil
  | n + 1 => by
    simp only [List.replicate_succ, List.flatten_cons]
    exact h.append (rep_ints h n)
theorem foldl_app (vs : Array Value) : ∀ (n : Nat) (acc : Array Value), ((List.replicate n vs).foldl (· ++ ·) acc).toList = acc.toList ++ (List.replicate n vs.toList).flatten
  | 0, acc => by simp
  | n + 1, acc => by
    simp only [List.replicate_succ, List.foldl_cons, List.flatten_cons]
    rw [foldl_app vs n]
    simp
noncomputable def mulL (xs : List Int) (k : Int) : List Int := (List.replicate k.toNat xs).flatten
theorem EvE.mulL {l r : Expr} {pos : Pos} {i : Nat} {ao : AO} {xs : List Int} {y : AV} {k : Int} (h1 : EvE prog K f d l σ (.obj i) σ₁) (h2 : EvE prog K f d r σ₁ y σ₂) (hi : σ₂.objs[i]? = some ao) (hx : intsO ao = some xs) (hy : y.i? = some k)
    (hk : k < 60000) (hk0 : 0 ≤ k) (hz : xs.length ≤ 64) : EvE prog K f d (.BinOp l .Mult r pos) σ (.obj σ₂.objs.length) { σ₂ with objs := σ₂.objs ++ [.il (Mine.mulL xs k)] } := by
  refine .binAt h1 h2 fun c as os m s Q E a b ok R ra rb hq => ?_
  obtain ⟨q, o, g1, _, _, g2, r1⟩ := R.obj hi
  obtain ⟨a', e1, rfl⟩ := ra
  rw [g1] at e1; cases e1
  obtain ⟨t, rfl⟩ := rb.int_of hy
  obtain ⟨vs, n, rfl, hi⟩ := intsO_of hx r1
  have hl := hi.length
  rw [Array.length_toList] at hl
  refine mul_list R.fr R.news g2 (by omega) (by omega) ?_ fun h' F' N' => ?_
  · rw [hl]
    have : k.toNat ≤ 60000 := by omega
    exact Nat.le_trans (Nat.mul_le_mul hz this) (by decide)
  · obtain ⟨R₂, r⟩ := R.made (tk := s.toks) F' N' R.lt (ao := .il (Mine.mulL xs k)) ⟨_, _, rfl, by
      rw [foldl_app]
      simp only [List.nil_append]
      unfold Mine.mulL
      by_cases e : vs.isEmpty = true
      · rw [if_pos e]
        have e' : xs = [] := by
          have := Array.isEmpty_iff_size_eq_zero.mp e
          rw [this] at hl
          exact List.eq_nil_of_length_eq_zero hl.symm
        subst e'
        simp
        exact .nil
      · rw [if_neg e]
        exact rep_ints hi _⟩
    exact hq _ _ _ _ _ r R₂
/-! comparisons of lists -/
theorem CmpAt.eqL {x y : AV} {i j : Nat} {ao bo : AO} {xs ys : List Int} (hx : x = .obj i) (hy : y = .obj j) (hi : σ.objs[i]? = some ao) (hj : σ.objs[j]? = some bo) (hx' : intsO ao = some xs) (hy' : intsO bo = some ys) (hd : 8 ≤ d) :
    CmpAt prog K f d .Eq σ x y (.bool (decide (xs = ys))) := by
  intro c as os m s Q E a b ok R ra rb hq
  subst hx hy
  obtain ⟨q, o, g1, _, _, g2, r1⟩ := R.obj hi
  obtain ⟨q', o', g1', _, _, g2', r2⟩ := R.obj hj
  obtain ⟨a', e1, rfl⟩ := ra
  obtain ⟨b', e2, rfl⟩ := rb
  rw [g1] at e1; cases e1
  rw [g1'] at e2; cases e2
  obtain ⟨vs, n, rfl, hi⟩ := intsO_of hx' r1
  obtain ⟨us, n', rfl, hj⟩ := intsO_of hy' r2
  exact eq_intsK (vs := vs.toList) (us := us.toList) (listOf_isList (n := n) (by simpa using g2)) hi (listOf_isList (n := n') (by simpa using g2')) hj (by have := ok.units; omega) (hq _ s.toks rfl)
theorem CmpAt.neL {x y : AV} {i j : Nat} {ao bo : AO} {xs ys : List Int} (hx : x = .obj i) (hy : y = .obj j) (hi : σ.objs[i]? = some ao) (hj : σ.objs[j]? = some bo) (hx' : intsO ao = some xs) (hy' : intsO bo = some ys) (hd : 8 ≤ d) :
    CmpAt prog K f d .NotEq σ x y (.bool (!decide (xs = ys))) := by
  intro c as os m s Q E a b ok R ra rb hq
  subst hx hy
  obtain ⟨q, o, g1, _, _, g2, r1⟩ := R.obj hi
  obtain ⟨q', o', g1', _, _, g2', r2⟩ := R.obj hj
  obtain ⟨a', e1, rfl⟩ := ra
  obtain ⟨b', e2, rfl⟩ := rb
  rw [g1] at e1; cases e1
  rw [g1'] at e2; cases e2
  obtain ⟨vs, n, rfl, hi⟩ := intsO_of hx' r1
  obtain ⟨us, n', rfl, hj⟩ := intsO_of hy' r2
  exact ne_intsK (vs := vs.toList) (us := us.toList) (listOf_isList (n := n) (by simpa using g2)) hi (listOf_isList (n := n') (by simpa using g2')) hj (by have := ok.units; omega) (hq _ s.toks rfl)
end
end Mine
/-! text M14 -/
open PySem PySem.W PyProof.Rows PySem.Spec PySem.Calls
set_option Elab.async false
set_option maxRecDepth 100000
namespace Mine
section
variable {prog : Program} {K : Params → Frag} {f : Fx} {d : Nat} {σ σ₁ σ₂ σ₃ : S}
theorem CmpAt.inL {x y : AV} {j : Nat} {bo : AO} {k : Int} {ys : List Int} (hx : x.i? = some k) (hy : y = .obj j) (hj : σ.objs[j]? = some bo) (hy' : intsO bo = some ys) : CmpAt prog K f d .In σ x y (.bool (ys.any (· == k))) := by
  intro c as os m s Q E a b ok R ra rb hq
  subst hy
  obtain ⟨q', o', g1', _, _, g2', r2⟩ := R.obj hj
  obtain ⟨b', e2, rfl⟩ := rb
  rw [g1'] at e2; cases e2
  obtain ⟨t, rfl⟩ := ra.int_of hx
  obtain ⟨us, n', rfl, hj⟩ := intsO_of hy' r2
  exact in_list_ints (vs := us.toList) (listOf_isList (n := n') (by simpa using g2')) hj (hq _ s.toks rfl)
/-! stores into targets -/
noncomputable def EvAs (prog : Program) (K : Params → Frag) (f : Fx) (d : Nat) (t : Expr) (x : AV) (σ σ' : S) : Prop := ∀ c : Cx, Ok K f d c → ∀ as os m s (v : Value) (Q : Unit → Shared → Prop) (E : Value → Shared → Prop), At c as os m σ s → RV as x v →
  (∀ bs os' m' s', At c (as ++ bs) os' m' σ' s' → Q () s') → wpAny (model prog c.w) c.A (assign t c.env v) Q E s
theorem EvAs.local {x : Str} {pos : Pos} {av : AV} {l : List (Str × Option AV)} (hf : f.fn = true) (e : setLoc x av σ.locs = some l) (hk : look x f.cs.names = some .local) : EvAs prog K f d (.Name x pos) av σ { σ with locs := l } := by
  intro c ok as os m s v Q E R rv hq
  exact wpAny_assign_Name (store_local hf ok R rv e hk fun m' s' R' => hq [] os m' s' (by rw [app_nil]; exact R'))
theorem EvAs.cell {x : Str} {pos : Pos} {av : AV} {i : Nat} {u : Option AV} (hl : look x σ.cells = some i) (ho : σ.objs[i]? = some (.cell u)) (hk : look x f.cs.names = some .cell) : EvAs prog K f d (.Name x pos) av σ { σ with objs := σ.objs.set i (.cell (some av)) } := by
  intro c ok as os m s v Q E R rv hq
  exact wpAny_assign_Name (store_cell ok R rv hl ho hk fun os' s' R' => hq [] os' m s' (by rw [app_nil]; exact R'))
theorem EvAs.subI {o i : Expr} {pos : Pos} {x y : AV} {j : Nat} {xs : List Int} {k z : Int} (h1 : EvE prog K f d o σ (.obj j) σ₁) (h2 : EvE prog K f d i σ₁ y σ₂) (hx : x.i? = some z) (hy : y.i? = some k) (hj : σ₂.objs[j]? = some (.il xs)) (hg : InB xs.length k) :
    EvAs prog K f d (.Subscript o i pos) x σ { σ₂ with objs := σ₂.objs.set j (.il (xs.set k.toNat z)) } := by
  intro c ok as os m s v Q E R rv hq
  rw [PySem.arm_assign_Subscript]
  refine wpAny_bind (wpAny_holding (h1 c ok as os m s _ E R fun bs os₁ m₁ w s₁ rw R₁ => wpAny_bind (wpAny_holding (h2 c ok _ os₁ m₁ s₁ _ E R₁ fun bs₂ os₂ m₂ u s₂ ru R₂ => wpAny_bind (wpAny_standAt (wpAny_bind (wpAny_holding ?_)))))))
  obtain ⟨t, rfl⟩ := rv.int_of hx
  obtain ⟨t', rfl⟩ := ru.int_of hy
  obtain ⟨a, ha, rfl⟩ := rw
  obtain ⟨a', ob, g1, g2, _, _, vs, n, rfl, g3⟩ := R₂.obj hj
  have g1' := getElem?_app (r := bs₂) ha
  rw [g1'] at g1
  cases g1
  have hl : vs.size = xs.length := by rw [← g3.length]; simp
  refine store_item (ao := .il (xs.set k.toNat z)) R₂ g1' g2 hg.1 (by rw [hl]; exact hg.2.1) hg.2.2 ⟨_, n, rfl, ?_⟩ fun os' s' R' => ?_
  · rw [Array.toList_setIfInBounds]
    exact IntsAre.set g3 _
  · rw [List.append_assoc] at R'
    exact wpAny_release (hq _ _ _ _ R')
inductive EvAll (prog : Program) (K : Params → Frag) (f : Fx) (d : Nat) : List Expr → List AV → S → S → Prop
  | nil {τ : S} : EvAll prog K f d [] [] τ τ
  | cons {t ts x xs} {τ τ₁ τ₂ : S} : notStar t = true → EvAs prog K f d t x τ τ₁ → EvAll prog K f d ts xs τ₁ τ₂ → EvAll prog K f d (t :: ts) (x :: xs) τ τ₂
theorem EvAll.len {ts : List Expr} {xs : List AV} {σ σ' : S} (h : EvAll prog K f d ts xs σ σ') : ts.length = xs.length := by
  induction h with
  | nil => rfl
  | cons _ _ _ ih => simp [ih]
theorem EvAll.star {ts : List Expr} {xs : List AV} {σ σ' : S} (h : EvAll prog K f d ts xs σ σ') : ∀ e ∈ ts, notStar e = true := by
  induction h with
  | nil => exact fun _ h => nomatch h
  | cons hn _ _ ih =>
    intro e he
    rcases List.mem_cons.mp he with rfl | he
    · exact hn
    · exact ih e he
theorem assignEach_plain {t : Expr} {ts : List Expr} {env : Env} (h : notStar t = true) : assignEach (t :: ts) env = (false, assign t env) :: assignEach ts env := by
  cases t <;> first | rfl | exact nb_ h
theorem assignEach_len {env : Env} : ∀ {ts : List Expr}, (∀ e ∈ ts, notStar e = true) → (assignEach ts env).length = ts.length ∧ (assignEach ts env).findIdx? (fun x => x.1) = none
  | [], _ => ⟨rfl, rfl⟩
  | t :: ts, h => by
    rw [assignEach_plain (h t (.head _))]
    obtain ⟨h1, h2⟩ := assignEach_len (env := env) fun e he => h e (.tail _ he)
    refine ⟨by simp [h1], ?_⟩
    rw [List.findIdx?_cons, h2]
    rfl
theorem EvAll.run {ts : List Expr} {xs : List AV} {σ σ' : S} (h : EvAll prog K f d ts xs σ σ') {c : Cx} (ok : Ok K f d c) : ∀ {as os m s} {vs : List Value} {Q : Unit → Shared → Prop} {E : Value → Shared → Prop}, At c as os m σ s → RVs as xs vs →
    (∀ bs os' m' s', At c (as ++ bs) os' m' σ' s' → Q () s') → wpAny (model prog c.w) c.A (assignInOrder ((assignEach ts c.env).map (·.2)) vs) Q E s := by
  induction h with
  | nil =>
    intro as os m s vs Q E R rvs hq
    cases rvs
    exact wpAny_pure (hq [] os m s (by rw [app_nil]; exact R))
  | cons hn h1 _ ih =>
    intro as os m s vs Q E R rvs hq
    cases rvs with
    | cons r rs =>
      rw [assignEach_plain hn]
      refine wpAny_bind (wpAny_holding (h1 c ok as os m s _ _ E R r fun bs os₁ m₁ s₁ R₁ => ?_))
      refine ih R₁ rs.up fun bs₂ os₂ m₂ s₂ R₂ => ?_
      rw [List.append_assoc] at R₂
      exact hq _ _ _ _ R₂
/-- tuples that K holds -/
inductive IsT (K : Params → Frag) (σ : S) : AV → List AV → Prop
  | told {i xs} : σ.objs[i]? = some (.tup xs) → IsT K σ (.obj i) xs
  | kept {a xs} : (∀ P, ∃ vs : List Value, (K P).lookup a = some (⟨.type "tuple", none, .seq vs.toArray, #[]⟩ : Obj) ∧ RVs [] xs vs) → IsT K σ (.val (.ref a)) xs
theorem Le.nil {as : List Addr} : Le [] as := fun i a h => by simp at h
theorem IsT.at {c : Cx} {as : List Addr} {os : List Obj} {m : Str → Option Value} {s : Shared} {x : AV} {xs : List AV} {v : Value} (h : IsT K σ x xs) (ok : Ok K f d c) (R : At c as os m σ s) (r : RV as x v) : ∃ t vs, v = .ref t ∧ s.heap.IsTuple t vs ∧ RVs as xs vs.toList := by
  cases h with
  | told h =>
    obtain ⟨a, o, g1, _, _, g2, vs, n, rfl, g3⟩ := R.obj h
    obtain ⟨a', e, rfl⟩ := r
    rw [g1] at e; cases e
    exact ⟨a, vs, rfl, ⟨_, g2, rfl, n, rfl⟩, g3⟩
  | kept h =>
    obtain rfl : v = .ref _ := r
    obtain ⟨vs, e, rs⟩ := h c.w.params
    exact ⟨_, vs.toArray, rfl, ⟨_, R.fr.keep _ _ (ok.kin _ _ e), rfl, _, rfl⟩, rs.le .nil⟩
theorem At.ext {c : Cx} {as : List Addr} {os : List Obj} {m : Str → Option Value} {s : Shared} {h' : Heap} (R : At c as os m σ s) (he : Heap.ExtBut s.heap.objs.size s.heap h') : At c as os m σ { s with heap := h' } :=
  R.move rfl rfl (R.fr.extBut he (Nat.le_refl _)) (R.news.grown fun b o e => he b o (Nat.ne_of_lt (Heap.lt_size e)) e) (fun _ _ _ => rfl) fun _ => rfl
theorem EvAs.tuple {ts : List Expr} {k : Nat} {pos : Pos} {x : AV} {xs : List AV} {σ' : S} (ht : IsT K σ x xs) (h : EvAll prog K f d ts xs σ σ') : EvAs prog K f d (.Tuple ts k pos) x σ σ' := by
  intro c ok as os m s v Q E R rv hq
  obtain ⟨t, vs, rfl, hv, rs⟩ := ht.at ok R rv
  obtain ⟨l1, l2⟩ := assignEach_len (env := c.env) h.star
  refine wpAny_assign_Tuple ok.handled hv (by rw [l1, h.len, ← rs.length, Array.length_toList]) l2 fun h' he => ?_
  exact h.run ok (R.ext he) rs hq
theorem EvS.assignT {ts : List Expr} {k : Nat} {tp pos : Pos} {v : Expr} {x : AV} {σ' : S} (h : EvE prog K f d v σ x σ₁) (ht : EvAs prog K f d (.Tuple ts k tp) x σ₁ σ') (hs : ∀ env : Env, swapsWithSole [.Tuple ts k tp] v pos.line env = pure false)
    (hw : ∀ env : Env, env.scope = f.cs → swappedStores [.Tuple ts k tp] v env = pure none) : EvS prog K f d (.Assign [.Tuple ts k tp] v pos) σ .next σ' := by
  intro c ok as os m s Q E R hq
  refine Assign_Tuple (h c ok as os m s _ E R fun bs os₁ m₁ u s₁ ru R₁ => ?_) (hs _) (hw _ ok.scope)
  refine ht c ok _ os₁ m₁ s₁ u _ E R₁ ru fun bs₂ os₂ m₂ s₂ R₂ => ?_
  rw [List.append_assoc] at R₂
  exact hq _ _ _ _ _ rfl R₂
/-- names bound in order -/
inductive EvNs (f : Fx) : List Str → List AV → S → S → Prop
  | nil {τ : S} : EvNs f [] [] τ τ
  | cons {x xs v vs l} {τ τ' : S} : setLoc x v τ.locs = some l → look x f.cs.names = some .local → EvNs f xs vs { τ with locs := l } τ' → EvNs f (x :: xs) (v :: vs) τ τ'
theorem EvNs.run {xs : List Str} {avs : List AV} {σ σ' : S} (h : EvNs f xs avs σ σ') {c : Cx} (hf : f.fn = true) (ok : Ok K f d c) : ∀ {as os m s} {vs : List Value} {Q : Unit → Shared → Prop} {E : Value → Shared → Prop}, At c as os m σ s → RVs as avs vs →
    (∀ m' s', At c as os m' σ' s' → Q () s') → wpAny (model prog c.w) c.A (assignInOrder (xs.map fun n => bindName c.env n) vs) Q E s := by
  induction h with
  | nil =>
    intro as os m s vs Q E R rvs hq
    cases rvs
    exact wpAny_pure (hq m s R)
  | cons e hk _ ih =>
    intro as os m s vs Q E R rvs hq
    cases rvs with
    | cons r rs =>
      refine wpAny_bind (wpAny_holding (bindName_ (store_local hf ok R r e hk fun m' s' R' => ?_)))
      exact ih R' rs hq
theorem RVs.reverse {as : List Addr} {xs : List AV} {vs : List Value} (h : RVs as xs vs) : RVs as xs.reverse vs.reverse := by
  have app : ∀ {xs ys : List AV} {vs us : List Value}, RVs as xs vs → RVs as ys us → RVs as (xs ++ ys) (vs ++ us) := fun h g => by
    induction h with
    | nil => exact g
    | cons r _ ih => exact .cons r ih
  induction h with
  | nil => exact .nil
  | cons r _ ih =>
    rw [List.reverse_cons, List.reverse_cons]
    exact app ih (.cons r .nil)
theorem EvS.assignW {ts : List Expr} {k : Nat} {tp pos : Pos} {v : Expr} {x : AV} {xs : List AV} {names : List Str} {σ' : S} (hf : f.fn = true) (h : EvE prog K f d v σ x σ₁) (ht : IsT K σ₁ x xs) (hn : EvNs f names.reverse xs.reverse σ₁ σ') (hl : names.length = xs.length) (hs : ∀ env : Env, swapsWithSole [.Tuple ts k tp] v pos.line env = pure false)
    (hw : ∀ env : Env, env.scope = f.cs → swappedStores [.Tuple ts k tp] v env = pure (some names)) : EvS prog K f d (.Assign [.Tuple ts k tp] v pos) σ .next σ' := by
  intro c ok as os m s Q E R hq
  refine Assign_Tuple_swapped (h c ok as os m s _ E R fun bs os₁ m₁ u s₁ ru R₁ => ?_) (hs _) (hw _ ok.scope)
  obtain ⟨t, vs, rfl, hv, rs⟩ := ht.at ok R₁ ru
  have hn' : names.length = vs.size := by rw [hl, ← rs.length, Array.length_toList]
  rw [hn']
  refine wpAny_unpackItems_tuple ok.handled hv fun h' he => ?_
  exact hn.run hf ok (R₁.ext he) rs.reverse fun m' s' R' => hq _ _ _ _ _ rfl R'
/-! and, or as values -/
theorem EvE.and1 {e : Expr} {pos : Pos} {x : AV} {op : BoolOp} (h : EvE prog K f d e σ x σ₁) : EvE prog K f d (.BoolOp op [e] pos) σ x σ₁ := by
  intro c ok as os m s Q E R hq
  exact BoolOp_one (h c ok as os m s Q E R hq)
theorem EvE.andC {e₁ e₂ : Expr} {rest : List Expr} {pos : Pos} {x y : AV} {k : Bool} (h : EvE prog K f d e₁ σ x σ₁) (ht : truthV x = some (true, k)) (h2 : EvE prog K f d (.BoolOp .And (e₂ :: rest) pos) σ₁ y σ₂) : EvE prog K f d (.BoolOp .And (e₁ :: e₂ :: rest) pos) σ y σ₂ := by
  intro c ok as os m s Q E R hq
  refine BoolOp_and (h c ok as os m s _ E R fun bs os₁ m₁ u s₁ ru R₁ => truth_of ht ru ?_)
  refine h2 c ok _ os₁ m₁ s₁ Q E R₁ fun bs₂ os₂ m₂ v s₂ rv R₂ => ?_
  rw [List.append_assoc] at rv R₂
  exact hq _ _ _ _ _ rv R₂
/-! calls of what the machine holds -/
noncomputable def BltT (prog : Program) (K : Params → Frag) (d : Nat) (v : Value) (args : List AV) (objs : List AO) (x : AV) (objs' : List AO) : Prop :=
  ∀ (f : Fx) (c : Cx) (σ : S), Ok K f d c → σ.objs = objs → ∀ as os m s (vs : List Value) (Q : Value → Shared → Prop) (E : Value → Shared → Prop), At c as os m σ s → RVs as args vs →
    (∀ bs os' m' u s', RV (as ++ bs) x u → At c (as ++ bs) os' m' { σ with objs := objs' } s' → Q u s') → wpAny (model prog c.w) c.A (call v vs) Q E s
noncomputable def machineV : Value → Bool
  | .builtin _ => true
  | .type _ => true
  | _ => false
theorem keeps_machine {v : Value} (hv : machineV v = true) {M : Model} (h : Heap) : ∃ k, (k = Keeper.frame ∨ k = Keeper.machine ∨ k = Keeper.boundFrame) ∧ Looks M h (keeperOf v) k := by
  cases v <;> first | (cases hv; done) | exact ⟨.machine, .inr (.inl rfl), Looks.now⟩
theorem EvE.callV {fe : Expr} {es : List Expr} {pos : Pos} {b : Blt} {xs : List AV} {x : AV} {objs' : List AO} (h1 : EvE prog K f d fe σ (.blt b) σ₁) (hs : ∀ e ∈ es, notStar e = true)
    (hfe : ∀ env : Env, eval (.Call fe es [] pos) env = (do callWith pos (← eval fe env) [] (backTo pos (starEach es env)) (backToKw pos (keywordEach [] env))))
    (ha : EvA prog K f d es σ₁ xs σ₂) (hc : BltT prog K d b.value xs σ₂.objs x objs') : EvE prog K f d (.Call fe es [] pos) σ x { σ₂ with objs := objs' } := by
  intro c ok as os m s Q E R hq
  refine Call_ (h1 c ok as os m s _ E R fun bs os₁ m₁ v s₁ rv R₁ => ?_) (hfe _)
  obtain rfl : v = b.value := rv
  have hm : machineV b.value = true := by cases b <;> rfl
  refine callWith_at ok R₁ hs ha (P := fun _ => True) (fun h _ => keeps_machine hm h) fun bs₂ os₂ m₂ vs s₂ rvs R₂ => ⟨trivial, ?_⟩
  refine hc f c σ₂ ok rfl _ os₂ m₂ s₂ vs Q E R₂ rvs fun bs₃ os₃ m₃ v s₃ rv R₃ => ?_
  rw [List.append_assoc, List.append_assoc] at rv R₃
  exact hq _ _ _ _ _ rv R₃
/-- a method of a list -/
theorem EvE.callLm {o : Expr} {name : Str} {apos pos : Pos} {es : List Expr} {id : String} {i : Nat} {ao : AO} {zs : List AV} {xs : List AV} {x : AV} {objs' : List AO} (h1 : EvE prog K f d o σ (.obj i) σ₁) (hb : ∀ env : Env, attributeBase o name env (eval o env) = eval o env) (hs : ∀ e ∈ es, notStar e = true) (hl : es.length < 29)
    (hline : (apos.endLine == pos.line) = true) (slot : Slot "list" name id) (hty : typeOf (.builtin id) = pure (.type "method_descriptor")) (hi : σ₁.objs[i]? = some ao) (hao : ∀ P as o, RO P as ao o → ∃ vs n, o = listOf vs n) (ha : EvA prog K f d es σ₁ xs σ₂) (hc : BltT prog K d (.builtin id) (.obj i :: xs) σ₂.objs x objs') :
    EvE prog K f d (.Call (.Attribute o name apos) es [] pos) σ x { σ₂ with objs := objs' } := by
  intro c ok as os m s Q E R hq
  refine wpAny_Call_method (hb _) ?_ hline F.plainAttrs_list slot hty (h1 c ok as os m s _ E R fun bs os₁ m₁ v s₁ rv R₁ => ?_)
  · rw [starEach_len c.env pos hs]
    show (true && true && decide (es.length + 0 + 0 < 30)) = true
    simp
    omega
  obtain ⟨q, e1, rfl⟩ := rv
  obtain ⟨q', o, g1, _, _, g2, r⟩ := R₁.obj hi
  rw [e1] at g1; cases g1
  obtain ⟨vs, n, rfl⟩ := hao _ _ _ r
  refine ⟨⟨_, g2, rfl⟩, fun a e => ⟨_, by cases e; exact g2, rfl⟩, ?_⟩
  refine callWith_at ok R₁ hs ha (P := fun _ => True) (fun h _ => keeps_machine rfl h) fun bs₂ os₂ m₂ vs s₂ rvs R₂ => ⟨trivial, ?_⟩
  refine hc f c σ₂ ok rfl _ os₂ m₂ s₂ (.ref q :: vs) Q E R₂ (.cons ⟨q, getElem?_app e1, rfl⟩ rvs) fun bs₃ os₃ m₃ v s₃ rv R₃ => ?_
  rw [List.append_assoc, List.append_assoc] at rv R₃
  exact hq _ _ _ _ _ rv R₃
/-! each of them -/
theorem blt_len {i : Nat} {ao : AO} {xs : List Int} {objs : List AO} (hi : objs[i]? = some ao) (hx : intsO ao = some xs) (hz : xs.length < 2 ^ 62) : BltT prog K d (.builtin "len") [.obj i] objs (.int xs.length) objs := by
  intro f c σ ok hσ as os m s vs Q E R rvs hq
  subst hσ
  cases rvs with
  | cons r rs =>
    cases rs
    obtain ⟨q, e1, rfl⟩ := r
    obtain ⟨q', o, g1, _, _, g2, r⟩ := R.obj hi
    rw [e1] at g1; cases g1
    obtain ⟨us, n, rfl, hi⟩ := intsO_of hx r
    exact len_ints_fit (vs := us.toList) (listOf_isList (n := n) (by simpa using g2)) hi hz (hq [] os m _ _ ⟨_, rfl⟩ (by rw [app_nil]; exact R.toks _))
theorem blt_sum {i : Nat} {ao : AO} {xs : List Int} {objs : List AO} (hi : objs[i]? = some ao) (hx : intsO ao = some xs) : BltT prog K d (.builtin "sum") [.obj i] objs (.int xs.sum) objs := by
  intro f c σ ok hσ as os m s vs Q E R rvs hq
  subst hσ
  cases rvs with
  | cons r rs =>
    cases rs
    obtain ⟨q, e1, rfl⟩ := r
    obtain ⟨q', o, g1, _, _, g2, r⟩ := R.obj hi
    rw [e1] at g1; cases g1
    obtain ⟨us, n, rfl, hi⟩ := intsO_of hx r
    refine sumK (vs := us.toList) ok.handled R.fr R.news (listOf_isList (n := n) (by simpa using g2)) hi fun h' tk t' F' N' => hq [] os m _ _ ⟨_, rfl⟩ ?_
    rw [app_nil]
    exact R.move rfl rfl F' N' (fun _ _ _ => rfl) fun _ => rfl
noncomputable def isInt : AV → Bool
  | .cint _ => true
  | .int _ => true
  | .any => true
  | _ => false
theorem isInt_of {as : List Addr} {x : AV} {v : Value} (h : isInt x = true) (r : RV as x v) : ∃ i t, v = .int i t := by
  cases x <;> first | exact no_ h | (cases h; done) | skip
  · obtain ⟨t, e⟩ := r; exact ⟨_, t, e⟩
  · obtain ⟨t, e⟩ := r; exact ⟨_, t, e⟩
  · exact r
theorem blt_isiIB {x : AV} {objs : List AO} (hx : isInt x = true) : BltT prog K d (.builtin "isinstance") [x, .blt .bool] objs (.cb false) objs := by
  intro f c σ ok hσ as os m s vs Q E R rvs hq
  subst hσ
  cases rvs with
  | cons r rs =>
    cases rs with
    | cons r' rs =>
      cases rs
      obtain ⟨i, t, rfl⟩ := isInt_of hx r
      cases r'
      exact IsiPair.int_bool (hq [] os m _ _ rfl (by rw [app_nil]; exact R.toks _))
theorem blt_isiIS {x : AV} {objs : List AO} (hx : isInt x = true) : BltT prog K d (.builtin "isinstance") [x, .blt .str] objs (.cb false) objs := by
  intro f c σ ok hσ as os m s vs Q E R rvs hq
  subst hσ
  cases rvs with
  | cons r rs =>
    cases rs with
    | cons r' rs =>
      cases rs
      obtain ⟨i, t, rfl⟩ := isInt_of hx r
      cases r'
      exact IsiPair.int_str (hq [] os m _ _ rfl (by rw [app_nil]; exact R.toks _))
theorem blt_isiSS {x : Str} {objs : List AO} : BltT prog K d (.builtin "isinstance") [.str x, .blt .str] objs (.cb true) objs := by
  intro f c σ ok hσ as os m s vs Q E R rvs hq
  subst hσ
  cases rvs with
  | cons r rs =>
    cases rs with
    | cons r' rs =>
      cases rs
      obtain ⟨t, rfl⟩ := r
      cases r'
      exact IsiPair.str_str (hq [] os m _ _ rfl (by rw [app_nil]; exact R))
theorem blt_range1 {y : AV} {b : Int} {objs : List AO} (hy : y.i? = some b) : BltT prog K d (.type "range") [y] objs (.obj objs.length) (objs ++ [.rng 0 b 1]) := by
  intro f c σ ok hσ as os m s vs Q E R rvs hq
  subst hσ
  cases rvs with
  | cons r rs =>
    cases rs
    obtain ⟨t, rfl⟩ := r.int_of hy
    refine call_range_1 ?_
    obtain ⟨R₂, r⟩ := R.made (tk := s.toks + 1 + 1) (a := s.heap.objs.size) (o := { cls := .type "range", data := .fields #[.int 0 s.toks, .int b t, .int 1 (s.toks + 1)] }) (ao := .rng 0 b 1) (R.fr.push _) (News.push R.fr R.news _) R.lt ⟨_, _, _, rfl⟩
    exact hq _ _ _ _ _ r R₂
theorem blt_range2 {x y : AV} {a b : Int} {objs : List AO} (hx : x.i? = some a) (hy : y.i? = some b) : BltT prog K d (.type "range") [x, y] objs (.obj objs.length) (objs ++ [.rng a b 1]) := by
  intro f c σ ok hσ as os m s vs Q E R rvs hq
  subst hσ
  cases rvs with
  | cons r rs =>
    cases rs with
    | cons r' rs =>
      cases rs
      obtain ⟨t, rfl⟩ := r.int_of hx
      obtain ⟨u, rfl⟩ := r'.int_of hy
      refine call_range_2 ?_
      obtain ⟨R₂, r⟩ := R.made (tk := s.toks + 1) (a := s.heap.objs.size) (o := { cls := .type "range", data := .fields #[.int a t, .int b u, .int 1 s.toks] }) (ao := .rng a b 1) (R.fr.push _) (News.push R.fr R.news _) R.lt ⟨_, _, _, rfl⟩
      exact hq _ _ _ _ _ r R₂
theorem blt_range3 {x y z : AV} {a b k : Int} {objs : List AO} (hx : x.i? = some a) (hy : y.i? = some b) (hz : z.i? = some k) (hk : k ≠ 0) (hp : Builtin.divisionGoesByPylong (b - a) k = false) : BltT prog K d (.type "range") [x, y, z] objs (.obj objs.length) (objs ++ [.rng a b k]) := by
  intro f c σ ok hσ as os m s vs Q E R rvs hq
  subst hσ
  cases rvs with
  | cons r rs =>
    cases rs with
    | cons r' rs =>
      cases rs with
      | cons r'' rs =>
        cases rs
        obtain ⟨t, rfl⟩ := r.int_of hx
        obtain ⟨u, rfl⟩ := r'.int_of hy
        obtain ⟨v, rfl⟩ := r''.int_of hz
        refine call_range_3 hk ?_ (.inl hp)
        obtain ⟨R₂, r⟩ := R.made (tk := s.toks) (a := s.heap.objs.size) (o := { cls := .type "range", data := .fields #[.int a t, .int b u, .int k v] }) (ao := .rng a b k) (R.fr.push _) (News.push R.fr R.news _) R.lt ⟨_, _, _, rfl⟩
        exact hq _ _ _ _ _ r R₂
/-- what is appended to a list -/
noncomputable def appO (ao : AO) (x : AV) : Option AO := match ao with
  | .list xs => some (.list (xs ++ [x]))
  | .il xs => match x.i? with
    | some i => some (.il (xs ++ [i]))
    | none => none
  | _ => none
theorem appO_ro {P : Params} {as : List Addr} {ao ao' : AO} {x : AV} {v : Value} {us : Array Value} {n n' : Nat} (hx : appO ao x = some ao') (r : RO P as ao (listOf us n)) (r' : RV as x v) : RO P as ao' (listOf (us.push v) n') := by
  cases ao with
  | list xs =>
    cases hx
    obtain ⟨vs, n₁, e, rr⟩ := r
    have app : ∀ {xs : List AV} {vs : List Value}, RVs as xs vs → RVs as (xs ++ [x]) (vs ++ [v]) := fun h => by
      induction h with
      | nil => exact .cons r' .nil
      | cons r _ ih => exact .cons r ih
    cases e
    exact ⟨_, _, rfl, by simpa using app rr⟩
  | il xs =>
    unfold appO at hx
    cases e : x.i? with
    | none => rw [e] at hx; exact no_ hx
    | some k =>
      rw [e] at hx
      cases hx
      obtain ⟨vs, n₁, e', rr⟩ := r
      cases e'
      obtain ⟨t, rfl⟩ := r'.int_of e
      exact ⟨_, _, rfl, by simpa using rr.append (.cons k t .nil)⟩
  | _ => exact no_ hx
/-- the told objects after a store -/
theorem news_upd {h₀ h' : Heap} {L q : Addr} {x y : Obj} {l l' pre post : List (Addr × Obj)} (U : Upd q x y l l') (e : l = pre ++ (q, x) :: post) (N : News h₀ L h' (pre ++ (q, y) :: post)) : News h₀ L h' l' := by
  obtain ⟨pre', post', q1, q2, d1, d2⟩ := U.split
  intro p hp
  rw [q2] at hp
  by_cases e2 : p.1 = q
  · obtain rfl : p = (q, y) := by
      rcases List.mem_append.mp hp with h | h
      · exact absurd e2 (d1 p h)
      · rcases List.mem_cons.mp h with rfl | h
        · rfl
        · exact absurd e2 (d2 p h)
    exact N _ (List.mem_append_right _ (.head _))
  · have hold : p ∈ l := by
      rw [q1]
      rcases List.mem_append.mp hp with h | h
      · exact List.mem_append_left _ h
      · rcases List.mem_cons.mp h with rfl | h
        · exact absurd rfl e2
        · exact List.mem_append_right _ (.tail _ h)
    rw [e] at hold
    rcases List.mem_append.mp hold with h | h
    · exact N p (List.mem_append_left _ h)
    · rcases List.mem_cons.mp h with rfl | h
      · exact absurd rfl e2
      · exact N p (List.mem_append_right _ (.tail _ h))
theorem blt_append {i : Nat} {ao ao' : AO} {x : AV} {objs : List AO} (hi : objs[i]? = some ao) (hx : appO ao x = some ao') (hz : ∀ P as o, RO P as ao o → ∃ vs n, o = listOf vs n ∧ vs.size ≤ 60000) : BltT prog K d (.builtin "list.append") [.obj i, x] objs (.val .none) (objs.set i ao') := by
  intro f c σ ok hσ as os m s vs Q E R rvs hq
  subst hσ
  cases rvs with
  | cons r rs =>
    cases rs with
    | cons r' rs =>
      cases rs
      rename_i v
      obtain ⟨q, e1, rfl⟩ := r
      obtain ⟨q', o, g1, g1', _, g2, r⟩ := R.obj hi
      rw [e1] at g1; cases g1
      obtain ⟨us, n, rfl, hsz⟩ := hz _ _ _ r
      refine append_K R.fr R.news (upd_zip _ e1 g1' R.nodup) (fun h' F' N' => ?_) (Nat.le_trans hsz (by decide +kernel))
      suffices ∃ o', At c as (os.set i o') m { σ with objs := σ.objs.set i ao' } { s with heap := h' } by
        obtain ⟨o', h⟩ := this
        exact hq [] _ m _ _ rfl (by rw [app_nil]; exact h)
      refine ⟨_, R.upd (s' := { s with heap := h' }) rfl rfl F' N' ?_⟩
      exact appO_ro hx r r'
end
end Mine
/-! text M15 -/
open PySem PySem.W PyProof.Rows PySem.Spec PySem.Calls
set_option Elab.async false
set_option maxRecDepth 100000
namespace Mine
/-! loops -/
noncomputable def addR (c : Cx) (I : Addr) (o : Obj) : Cx := { c with rest := c.rest ++ [(I, o)] }
inductive Turns (prog : Program) (K : Params → Frag) (f : Fx) (d : Nat) (target : Expr) (body : List Stmt) (Kp : S → Prop) : List AV → S → Out → S → Prop
  | nil {τ : S} : Kp τ → Turns prog K f d target body Kp [] τ .next τ
  | next {x xs} {τ τ₁ τ₂ τ' : S} {o o' : Out} : Kp τ → EvAs prog K f d target x τ τ₁ → EvB prog K f d body τ₁ o τ₂ → (o = .next ∨ o = .cont) → Turns prog K f d target body Kp xs τ₂ o' τ' → Turns prog K f d target body Kp (x :: xs) τ o' τ'
  | brk {x xs} {τ τ₁ τ' : S} : Kp τ → EvAs prog K f d target x τ τ₁ → EvB prog K f d body τ₁ .brk τ' → Turns prog K f d target body Kp (x :: xs) τ .next τ'
  | ret {x xs v} {τ τ₁ τ' : S} : Kp τ → EvAs prog K f d target x τ τ₁ → EvB prog K f d body τ₁ (.ret v) τ' → Turns prog K f d target body Kp (x :: xs) τ (.ret v) τ'
section
variable {prog : Program} {K : Params → Frag} {f : Fx} {d : Nat} {σ σ₁ σ₂ σ₃ : S} {c : Cx} {as : List Addr} {os : List Obj} {m : Str → Option Value} {s : Shared} {I : Addr} {o o' : Obj}
theorem Ok.addR (ok : Ok K f d c) : Ok K f d (Mine.addR c I o) :=
  have hc : f.fn = false → ∃ C oC m₀ m₂, (Mine.addR c I o).comp = some (m₀, m₂) ∧ (Mine.addR c I o).env.locals = C ∧ (C, oC) ∈ (Mine.addR c I o).rest ∧ LCg.NsObj oC m₂ := fun h => by
    obtain ⟨C, oC, m₀, m₂, h1, h2, h3, h4⟩ := ok.cmp h
    exact ⟨C, oC, m₀, m₂, h1, h2, List.mem_append_left _ h3, h4⟩
  { ok with cmp := hc }
theorem At.pushR (R : At c as os m σ s) (hget : (s.heap.push o).get? s.heap.objs.size = some o) : At (addR c s.heap.objs.size o) as os m σ { s with heap := s.heap.push o } :=
  { gens := R.gens, os_ := R.os_, fr := R.fr.push _
    news := fun p hp => by
      rw [show (addR c s.heap.objs.size o).rest = c.rest ++ [(s.heap.objs.size, o)] from rfl, ← List.append_assoc] at hp
      rcases List.mem_append.mp hp with h | h
      · exact ⟨Heap.get?_push_of_some _ (R.news p h).1, (R.news p h).2⟩
      · rw [List.mem_singleton.mp h]
        exact ⟨hget, Nat.ne_of_gt R.fr.ns.lt, next_is_new R.fr⟩
    len := R.len, len' := R.len'
    nodup := by
      show (as ++ (c.rest ++ [(s.heap.objs.size, o)]).map (·.1)).Nodup
      rw [List.map_append, ← List.append_assoc, List.nodup_append]
      refine ⟨R.nodup, by simp, fun a ha b hb => ?_⟩
      simp at hb
      subst hb
      intro e
      exact not_mem_of_lt R.len R.lt (e ▸ ha)
    objs := R.objs, locs := R.locs, keys := R.keys, cells := R.cells, comp := R.comp }
theorem At.mem (R : At (addR c I o) as os m σ s) : s.heap.get? I = some o ∧ I ≠ c.L ∧ c.h₀.get? I = none :=
  R.news (I, o) (List.mem_append_right _ (List.mem_append_right _ (.head _)))
theorem At.chR {h' : Heap} {tk : Nat} (R : At (addR c I o) as os m σ s) (he : Heap.ExtBut I s.heap h') (ho : h'.get? I = some o') : At (addR c I o') as os m σ { s with heap := h', toks := tk } :=
  have mm := R.mem
  have nI : ∀ p ∈ as.zip os ++ c.rest, p.1 ≠ I := fun p hp e => by
    have nd := R.nodup
    rw [show (addR c I o).rest.map (·.1) = c.rest.map (·.1) ++ [I] from by show (c.rest ++ [(I, o)]).map (·.1) = _; rw [List.map_append]; rfl, ← List.append_assoc, List.nodup_append] at nd
    refine nd.2.2 p.1 ?_ I (.head _) e
    rcases List.mem_append.mp hp with h | h
    · exact List.mem_append_left _ (List.of_mem_zip (show (p.1, p.2) ∈ _ from h)).1
    · exact List.mem_append_right _ (List.mem_map_of_mem (f := (·.1)) h)
  { gens := R.gens, os_ := R.os_
    fr := LCg.fr_but R.fr (fun b o hb e => he b o (by simpa using hb) e) (Ne.symm mm.2.1) mm.2.2
    news := fun p hp => by
      rw [show (addR c I o').rest = c.rest ++ [(I, o')] from rfl, ← List.append_assoc] at hp
      rcases List.mem_append.mp hp with h | h
      · have := R.news p (by
          rw [show (addR c I o).rest = c.rest ++ [(I, o)] from rfl, ← List.append_assoc]
          exact List.mem_append_left _ h)
        exact ⟨he _ _ (nI p h) this.1, this.2⟩
      · rw [List.mem_singleton.mp h]
        exact ⟨ho, mm.2⟩
    len := R.len, len' := R.len'
    nodup := by
      have := R.nodup
      rw [show (addR c I o).rest.map (·.1) = (addR c I o').rest.map (·.1) from by show (c.rest ++ [(I, o)]).map (·.1) = (c.rest ++ [(I, o')]).map (·.1); rw [List.map_append, List.map_append]; rfl] at this
      exact this
    objs := R.objs, locs := R.locs, keys := R.keys, cells := R.cells, comp := R.comp }
theorem At.dropR {h' : Heap} (R : At (addR c I o) as os m σ s) (he : Heap.ExtBut I s.heap h') : At c as os m σ { s with heap := h' } :=
  have mm := R.mem
  have nI : ∀ p ∈ as.zip os ++ c.rest, p.1 ≠ I := fun p hp e => by
    have nd := R.nodup
    rw [show (addR c I o).rest.map (·.1) = c.rest.map (·.1) ++ [I] from by show (c.rest ++ [(I, o)]).map (·.1) = _; rw [List.map_append]; rfl, ← List.append_assoc, List.nodup_append] at nd
    refine nd.2.2 p.1 ?_ I (.head _) e
    rcases List.mem_append.mp hp with h | h
    · exact List.mem_append_left _ (List.of_mem_zip (show (p.1, p.2) ∈ _ from h)).1
    · exact List.mem_append_right _ (List.mem_map_of_mem (f := (·.1)) h)
  { gens := R.gens, os_ := R.os_
    fr := LCg.fr_but R.fr (fun b o hb e => he b o (by simpa using hb) e) (Ne.symm mm.2.1) mm.2.2
    news := fun p hp => by
      have := R.news p (by
        rw [show (addR c I o).rest = c.rest ++ [(I, o)] from rfl, ← List.append_assoc]
        exact List.mem_append_left _ hp)
      exact ⟨he _ _ (nI p hp) this.1, this.2⟩
    len := R.len, len' := R.len'
    nodup := by
      have := R.nodup
      rw [show (addR c I o).rest.map (·.1) = c.rest.map (·.1) ++ [I] from by show (c.rest ++ [(I, o)]).map (·.1) = _; rw [List.map_append]; rfl, ← List.append_assoc, List.nodup_append] at this
      exact this.1
    objs := R.objs, locs := R.locs, keys := R.keys, cells := R.cells, comp := R.comp }
theorem At.dropR' (R : At (addR c I o) as os m σ s) : At c as os m σ s := R.dropR (h' := s.heap) fun _ _ _ e => e
/-- what yields items -/
structure Src (prog : Program) (K : Params → Frag) (f : Fx) (d : Nat) (target : Expr) (c : Cx) (as : List Addr) (I : Addr) (Kp : S → Prop) (items : List AV) (It : Nat → Obj → Prop) : Prop where
  next : ∀ (k : Nat) (x : AV) bs os m σ (s : Shared) (o : Obj) (Q : Option Value → Shared → Prop) (E : Value → Shared → Prop), At (addR c I o) (as ++ bs) os m σ s → Kp σ → It k o → items[k]? = some x →
    (∀ v s' o', RV (as ++ bs) x v → At (addR c I o') (as ++ bs) os m σ s' → It (k + 1) o' → Q (some v) s') → wpAny (model prog c.w) c.A (pyNext (.ref I)) Q E s
  done : ∀ bs os m σ (s : Shared) (o : Obj) (Q : Option Value → Shared → Prop) (E : Value → Shared → Prop), At (addR c I o) (as ++ bs) os m σ s → Kp σ → It items.length o →
    (∀ s', At c (as ++ bs) os m σ s' → Q none s') → wpAny (model prog c.w) c.A (pyNext (.ref I)) Q E s
  self : ∀ (k : Nat) (o : Obj) (s : Shared) (Q : Value → Shared → Prop) (E : Value → Shared → Prop), s.heap.get? I = some o → It k o → Q (.ref I) s → wpAny (model prog c.w) c.A (pyIter (.ref I)) Q E s
  go : ∀ (k : Nat) (v : Value) (o : Obj) (s : Shared) (Q : Unit → Shared → Prop) (E : Value → Shared → Prop), s.heap.get? I = some o → It k o → Q () s → wpAny (model prog c.w) c.A (letOwnedTupleGo target (.ref I) v) Q E s
/-! lists -/
noncomputable def itemsO : AO → Option (List AV)
  | .list xs => some xs
  | .il xs => some (xs.map .int)
  | _ => none
theorem intsAre_rvs {as : List Addr} {vs : List Value} {xs : List Int} (h : IntsAre vs xs) : RVs as (xs.map .int) vs := by
  induction h with
  | nil => exact .nil
  | cons n t _ ih => exact .cons ⟨t, rfl⟩ ih
inductive SrcL (K : Params → Frag) (σ : S) : AV → List AV → Prop
  | told {i ao xs} : σ.objs[i]? = some ao → itemsO ao = some xs → SrcL K σ (.obj i) xs
  | kept {a xs} : (∀ P, ∃ vs : List Value, (K P).lookup a = some (⟨.type "list", none, .seq vs.toArray, #[]⟩ : Obj) ∧ RVs [] xs vs) → SrcL K σ (.val (.ref a)) xs
theorem SrcL.at {x : AV} {xs : List AV} {v : Value} (h : SrcL K σ x xs) (ok : Ok K f d c) (R : At c as os m σ s) (r : RV as x v) : ∃ t vs, v = .ref t ∧ s.heap.IsList t vs ∧ RVs as xs vs.toList := by
  cases h with
  | @told i ao xs h hx =>
    obtain ⟨a, o, g1, _, _, g2, r'⟩ := R.obj h
    obtain ⟨a', e, rfl⟩ := r
    rw [g1] at e; cases e
    cases ao <;> first | (cases hx; done) | skip
    · cases hx
      obtain ⟨vs, n, rfl, rr⟩ := r'
      exact ⟨a, vs, rfl, listOf_isList g2, rr⟩
    · cases hx
      obtain ⟨vs, n, rfl, rr⟩ := r'
      exact ⟨a, vs, rfl, listOf_isList g2, intsAre_rvs rr⟩
  | kept h =>
    obtain rfl : v = .ref _ := r
    obtain ⟨vs, e, rs⟩ := h c.w.params
    exact ⟨_, vs.toArray, rfl, ⟨_, R.fr.keep _ _ (ok.kin _ _ e), rfl, _, rfl⟩, rs.le .nil⟩
noncomputable def plainTarget : Expr → Bool
  | .Name .. => true
  | .Tuple .. => true
  | _ => false
noncomputable def isListIter (ax : Addr) (k : Nat) (o : Obj) : Prop := o.cls = .type "list_iterator" ∧ o.data = .fields #[.ref ax, .int (k : Nat) 0]
theorem src_list {target : Expr} {x : AV} {xs : List AV} {ax : Addr} (ok : Ok K f d c) (ht : plainTarget target = true) (hx : RV as x (.ref ax)) : Src prog K f d target c as I (fun τ => SrcL K τ x xs) xs (isListIter ax) where
  next := fun k y bs os m σ s o Q E R kp hI hy hq => by
    obtain ⟨t, vs, e, hl, rs⟩ := kp.at ok.addR R hx.up
    cases e
    obtain ⟨v, hv, rv⟩ := rs.get k y hy
    refine wpAny_pyNext_list_item ⟨o, R.mem.1, hI.1, hI.2⟩ hl (by rw [← Array.getElem?_toList]; exact hv) fun h' hit hs => ?_
    obtain ⟨o', ho', h1, h2⟩ := hit
    exact hq v _ o' rv (R.chR (tk := s.toks) hs.extBut ho') ⟨h1, h2⟩
  done := fun bs os m σ s o Q E R kp hI hq => by
    obtain ⟨t, vs, e, hl, rs⟩ := kp.at ok.addR R hx.up
    cases e
    refine wpAny_pyNext_list_end ok.handled ⟨o, R.mem.1, hI.1, hI.2⟩ hl (by
      rw [← Array.getElem?_toList, List.getElem?_eq_none_iff, rs.length]
      exact Nat.le_refl _) fun h' he => hq _ (R.dropR he)
  self := fun k o s Q E ho hI hq => wpAny_pyIter_listiter (i := k) ⟨o, ho, hI.1, hI.2⟩ hq
  go := fun k v o s Q E ho hI hq => by
    cases target <;> first | (cases ht; done) | skip
    · exact wpAny_pure hq
    · cases v <;> first | exact wpAny_pure hq | exact wpAny_letOwnedTupleGo_listiter ⟨o, ho, hI.1, hI.2⟩ hq
/-! ranges -/
noncomputable def rangeAV (a k : Int) : Nat → Nat → List AV
  | _, 0 => []
  | i, n + 1 => .int (a + (i : Int) * k) :: rangeAV a k (i + 1) n
theorem rangeAV_len {a k : Int} : ∀ {n i : Nat}, (rangeAV a k i n).length = n
  | 0, _ => rfl
  | n + 1, i => by simp [rangeAV, rangeAV_len]
theorem rangeAV_get {a k : Int} : ∀ {n i j : Nat} {x : AV}, (rangeAV a k i n)[j]? = some x → x = .int (a + ((i + j : Nat) : Int) * k) ∧ j < n
  | 0, i, j, x, h => by simp [rangeAV] at h
  | n + 1, i, 0, x, h => by simp [rangeAV] at h; exact ⟨by rw [← h]; simp, Nat.succ_pos _⟩
  | n + 1, i, j + 1, x, h => by
    obtain ⟨h1, h2⟩ := rangeAV_get (n := n) (i := i + 1) (j := j) (by simpa [rangeAV] using h)
    exact ⟨by rw [h1, show i + 1 + j = i + (j + 1) by omega], by omega⟩
noncomputable def isRangeIter (a k : Int) (n : Nat) (j : Nat) (o : Obj) : Prop := o = { cls := .type "range_iterator", data := .fields #[rawInt (a + (j : Int) * k), rawInt ((n : Int) - (j : Int)), rawInt k] }
theorem src_range {x : Str} {px : Pos} {a k : Int} {n : Nat} (ok : Ok K f d c) : Src prog K f d (.Name x px) c as I (fun _ => True) (rangeAV a k 0 n) (isRangeIter a k n) where
  next := fun j y bs os m σ s o Q E R kp hI hy hq => by
    obtain ⟨rfl, hj⟩ := rangeAV_get hy
    refine (Walks.range (prog := prog) (w := c.w) ok.handled I a k n).item j s Q E hj (by rw [show IsRangeIter s.heap I _ _ _ ↔ s.heap.get? I = some _ from Iff.rfl, R.mem.1, hI]) fun v h' tk hv hst hk => ?_
    obtain ⟨t, rfl⟩ := hv
    refine hq _ _ _ ⟨t, by rw [Nat.zero_add]⟩ (R.chR (tk := tk) (fun b o hb e => hk b o (by simpa using hb) e) hst) rfl
  done := fun bs os m σ s o Q E R kp hI hq => by
    rw [rangeAV_len] at hI
    refine (Walks.range (prog := prog) (w := c.w) ok.handled I a k n).done s Q E (by rw [show IsRangeIter s.heap I _ _ _ ↔ s.heap.get? I = some _ from Iff.rfl, R.mem.1, hI]) fun h' tk hk => ?_
    exact hq _ ((R.dropR (fun b o hb e => hk b o (by simpa using hb) e)).toks tk)
  self := fun j o s Q E ho hI hq => wpAny_pyIter_rangeiter (show IsRangeIter s.heap I _ _ _ from ho.trans (congrArg some hI)) hq
  go := fun j v o s Q E ho hI hq => wpAny_pure hq
/-! while -/
inductive While (prog : Program) (K : Params → Frag) (f : Fx) (d : Nat) (test : Expr) (body : List Stmt) : Nat → S → Out → S → Prop
  | done {n} {τ τ' : S} : EvT prog K f d test τ false τ' → While prog K f d test body n τ .next τ'
  | turn {n} {τ τ₁ τ₂ τ' : S} {o o' : Out} : EvT prog K f d test τ true τ₁ → EvB prog K f d body τ₁ o τ₂ → (o = .next ∨ o = .cont) → While prog K f d test body n τ₂ o' τ' → While prog K f d test body (n + 1) τ o' τ'
  | ret {n v} {τ τ₁ τ' : S} : EvT prog K f d test τ true τ₁ → EvB prog K f d body τ₁ (.ret v) τ' → While prog K f d test body n τ (.ret v) τ'
inductive WInv (prog : Program) (K : Params → Frag) (f : Fx) (d : Nat) (test : Expr) (body : List Stmt) (c : Cx) (as : List Addr) (out : Out) (σ' : S) (n : Nat) (s : Shared) : Prop
  | mk (bs : List Addr) (os : List Obj) (m : Str → Option Value) (τ : S) (R : At c (as ++ bs) os m τ s) (W : While prog K f d test body n τ out σ') : WInv prog K f d test body c as out σ' n s
theorem EvS.while {test : Expr} {body : List Stmt} {pos : Pos} {n : Nat} {out : Out} {σ' : S} (h : While prog K f d test body n σ out σ') : EvS prog K f d (.While test body [] pos) σ out σ' := by
  intro c ok as os m s Q E R hq
  refine wpAny_While ?_
  refine codeAny_whileLoop (WInv prog K f d test body c as out σ') ?_ n (.mk [] os m σ (by rw [app_nil]; exact R) h)
  rintro n s ⟨bs, os, m, τ, R, W⟩
  cases W with
  | done ht =>
    refine ht c ok _ os m s _ _ R fun bs₂ os₂ m₂ s₂ R₂ => ?_
    rw [List.append_assoc] at R₂
    simp only [Bool.false_eq_true, if_false]
    exact wpAny_execs_nil (hq _ _ _ _ _ rfl R₂)
  | @turn n' _ _ _ _ _ _ ht hb hn W' =>
    refine ht c ok _ os m s _ _ R fun bs₂ os₂ m₂ s₂ R₂ => ?_
    simp only [if_true]
    refine hb c ok _ os₂ m₂ s₂ _ _ R₂ fun bs₃ os₃ m₃ u s₃ ru R₃ => ?_
    rw [List.append_assoc, List.append_assoc] at ru R₃
    have : ∃ k, k < n' + 1 ∧ WInv prog K f d test body c as out σ' k s₃ := ⟨n', Nat.lt_succ_self _, .mk _ _ _ _ R₃ W'⟩
    rcases hn with rfl | rfl
    · obtain rfl : u = .next := ru; exact this
    · obtain rfl : u = .cont := ru; exact this
  | ret ht hb =>
    refine ht c ok _ os m s _ _ R fun bs₂ os₂ m₂ s₂ R₂ => ?_
    simp only [if_true]
    refine hb c ok _ os₂ m₂ s₂ _ _ R₂ fun bs₃ os₃ m₃ u s₃ ru R₃ => ?_
    rw [List.append_assoc, List.append_assoc] at ru R₃
    obtain ⟨w, rfl, rw⟩ := ru
    exact hq _ _ _ _ _ ⟨w, rfl, rw⟩ R₃
end
end Mine
/-! text M16 -/
open PySem PySem.W PyProof.Rows PySem.Spec PySem.Calls
set_option Elab.async false
set_option maxRecDepth 100000
namespace Mine
/-! comprehensions -/
noncomputable def relab1 (cs : Scope) (n : Str) (k : NameKind) : NameKind := match k with
  | .free => match cs.kind with
    | .function => match look n cs.names with
      | some .cell => .cell
      | _ => .free
    | _ => .free
  | k => k
noncomputable def relabN (cs : Scope) (l : List (Str × NameKind)) : List (Str × NameKind) := l.map fun p => (p.1, relab1 cs p.1 p.2)
noncomputable def relab (cs scope : Scope) : Scope := { scope with names := relabN cs scope.names }
theorem relabN_eq {cs : Scope} {env : Env} (h : env.scope = cs) (l : List (Str × NameKind)) : (l.map fun (n, k) => if (k == .free && env.scope.kind == .function && env.kindOf n == some .cell) then (n, NameKind.cell) else (n, k)) = relabN cs l := by
  unfold relabN
  congr 1
  funext ⟨n, k⟩
  have e : env.kindOf n = look n cs.names := by rw [look_lookup, ← h]; rfl
  dsimp only
  rw [e, h]
  unfold relab1
  cases k <;> first | rfl | skip
  cases cs.kind <;> first | rfl | skip
  cases look n cs.names with
  | none => rfl
  | some k => cases k <;> rfl
theorem relab_eq {cs scope : Scope} {env : Env} (h : env.scope = cs) : relabel scope env = relab cs scope := by
  unfold relabel relab
  rw [relabN_eq h]
theorem closure_of {env : Env} : ∀ (l : List (Str × NameKind)) (acc : List (Str × Addr)), (∀ x, (x, NameKind.free) ∈ l → ∃ a, env.cells.lookup x = some a) → (∀ p ∈ acc, env.cells.lookup p.1 = some p.2) →
    ∃ cl, ((forIn l acc fun (p : Str × NameKind) cs => match p with
      | (name, kind) => if (kind == .free) = true then do let a ← cellOf env name; pure (ForInStep.yield ((name, a) :: cs)) else pure (ForInStep.yield cs)) : Sem (List (Str × Addr))) = pure cl ∧ (∀ p ∈ cl, env.cells.lookup p.1 = some p.2) ∧ (∀ x, (x, NameKind.free) ∈ l ∨ x ∈ acc.map (·.1) → x ∈ cl.map (·.1))
  | [], acc, _, h => ⟨acc, rfl, h, fun x hx => by rcases hx with hx | hx; cases hx; exact hx⟩
  | (n, k) :: r, acc, hf, h => by
    rw [List.forIn_cons]
    by_cases e : (k == NameKind.free) = true
    · have : k = .free := by simpa using e
      subst this
      obtain ⟨a, ha⟩ := hf n (.head _)
      obtain ⟨cl, h1, h2, h3⟩ := closure_of r ((n, a) :: acc) (fun x hx => hf x (.tail _ hx)) (fun p hp => by
        rcases List.mem_cons.mp hp with rfl | hp
        · exact ha
        · exact h p hp)
      refine ⟨cl, ?_, h2, fun x hx => h3 x ?_⟩
      · rw [← h1]
        simp only [cellOf, ha]
        rfl
      · rcases hx with hx | hx
        · rcases List.mem_cons.mp hx with e | hx
          · cases e; exact .inr (.head _)
          · exact .inl hx
        · exact .inr (.tail _ hx)
    · obtain ⟨cl, h1, h2, h3⟩ := closure_of r acc (fun x hx => hf x (.tail _ hx)) h
      refine ⟨cl, ?_, h2, fun x hx => h3 x ?_⟩
      · rw [← h1]
        simp only [e]
        rfl
      · rcases hx with hx | hx
        · rcases List.mem_cons.mp hx with e' | hx
          · cases e'; exact absurd rfl e
          · exact .inl hx
        · exact .inr hx
theorem lookup_of_all {x : Str} {g : Str → Option Addr} : ∀ {cl : List (Str × Addr)}, (∀ p ∈ cl, g p.1 = some p.2) → x ∈ cl.map (·.1) → cl.lookup x = g x
  | [], _, h => nomatch h
  | (y, a) :: r, h, hx => by
    rw [List.lookup_cons]
    cases e : x == y with
    | true =>
      have : x = y := by simpa using e
      subst this
      exact (h _ (.head _)).symm
    | false =>
      refine lookup_of_all (fun p hp => h p (.tail _ hp)) ?_
      rcases List.mem_cons.mp hx with e' | hx
      · have e' : x = y := e'
        subst e'
        simp at e
      · exact hx
theorem closureFor_of {scope : Scope} {env : Env} (h : ∀ x, (x, NameKind.free) ∈ scope.names → ∃ a, env.cells.lookup x = some a) : ∃ cl, closureFor scope env = pure cl ∧ ∀ x, (x, NameKind.free) ∈ scope.names → cl.lookup x = env.cells.lookup x := by
  obtain ⟨cl, h1, h2, h3⟩ := closure_of scope.names [] h (fun _ h => nomatch h)
  refine ⟨cl, ?_, fun x hx => lookup_of_all (g := fun x => env.cells.lookup x) h2 (h3 x (.inl hx))⟩
  unfold closureFor
  dsimp only
  refine (congrArg (fun t => t >>= fun cs => pure cs) h1).trans ?_
  rfl
section
variable {prog : Program} {K : Params → Frag} {f : Fx} {d : Nat} {σ σ₁ σ₂ σ₃ : S} {c : Cx} {as : List Addr} {os : List Obj} {m : Str → Option Value} {s : Shared} {I C D : Addr} {o o' oC oD : Obj}
theorem At.perm {r : List (Addr × Obj)} (R : At c as os m σ s) (h : c.rest.Perm r) : At { c with rest := r } as os m σ s :=
  { gens := R.gens, os_ := R.os_, fr := R.fr
    news := fun p hp => R.news p (by
      rcases List.mem_append.mp hp with h' | h'
      · exact List.mem_append_left _ h'
      · exact List.mem_append_right _ (h.mem_iff.mpr h'))
    len := R.len, len' := R.len'
    nodup := ((h.map (·.1)).append_left as).nodup_iff.mp R.nodup
    objs := R.objs, locs := R.locs, keys := R.keys, cells := R.cells, comp := R.comp }
theorem At.swap (R : At (addR (addR c I o) D oD) as os m σ s) : At (addR (addR c D oD) I o) as os m σ s :=
  R.perm (r := (addR (addR c D oD) I o).rest) (by
    show ((c.rest ++ [(I, o)]) ++ [(D, oD)]).Perm ((c.rest ++ [(D, oD)]) ++ [(I, o)])
    rw [List.append_assoc, List.append_assoc]
    exact List.Perm.append_left _ (.swap ..))
theorem At.rot (R : At (addR (addR (addR c I o) D oD) C oC) as os m σ s) : At (addR (addR (addR c D oD) C oC) I o) as os m σ s :=
  R.perm (r := (addR (addR (addR c D oD) C oC) I o).rest) (by
    show (((c.rest ++ [(I, o)]) ++ [(D, oD)]) ++ [(C, oC)]).Perm (((c.rest ++ [(D, oD)]) ++ [(C, oC)]) ++ [(I, o)])
    simp only [List.append_assoc]
    exact List.Perm.append_left _ ((List.Perm.swap ..).trans (.cons _ (.swap ..))))
theorem At.takeR {ao : AO} (R : At (addR c D oD) as os m σ s) (r : RO c.w.params (as ++ [D]) ao oD) : At c (as ++ [D]) (os ++ [oD]) m { σ with objs := σ.objs ++ [ao] } s ∧ RV (as ++ [D]) (.obj σ.objs.length) (.ref D) := by
  have R' := R.dropR'
  refine ⟨R'.new rfl rfl R'.fr (fun p hp => ?_) ?_ r, D, ?_, rfl⟩
  · rcases List.mem_cons.mp hp with rfl | hp
    · exact R.mem
    · exact R'.news p hp
  · intro hm
    have nd := R.nodup
    rw [show (addR c D oD).rest.map (·.1) = c.rest.map (·.1) ++ [D] from by show (c.rest ++ [(D, oD)]).map (·.1) = _; rw [List.map_append]; rfl, ← List.append_assoc, List.nodup_append] at nd
    exact nd.2.2 D hm D (.head _) rfl
  · rw [R.len', List.getElem?_append_right (Nat.le_refl _), Nat.sub_self]
    rfl
inductive EvIfs (prog : Program) (K : Params → Frag) (g : Fx) (d : Nat) : List Expr → S → Bool → S → Prop
  | nil {τ : S} : EvIfs prog K g d [] τ true τ
  | one {ct b} {τ τ' : S} : EvT prog K g d ct τ b τ' → EvIfs prog K g d [ct] τ b τ'
inductive CTurns (prog : Program) (K : Params → Frag) (g : Fx) (d : Nat) (x : Str) (cs : List (Str × Nat)) (ifs : List Expr) (elt : Expr) (Kp : List AO → Prop) : List AV → List AO → List AV → List AO → Prop
  | nil {ob : List AO} : Kp ob → CTurns prog K g d x cs ifs elt Kp [] ob [] ob
  | keep {v vs y ys} {ob ob' : List AO} {τ₁ τ₂ : S} : Kp ob → EvIfs prog K g d ifs ⟨ob, [(x, some v)], cs⟩ true τ₁ → EvE prog K g d elt τ₁ y τ₂ → CTurns prog K g d x cs ifs elt Kp vs τ₂.objs ys ob' → CTurns prog K g d x cs ifs elt Kp (v :: vs) ob (y :: ys) ob'
  | skip {v vs ys} {ob ob' : List AO} {τ₁ : S} : Kp ob → EvIfs prog K g d ifs ⟨ob, [(x, some v)], cs⟩ false τ₁ → CTurns prog K g d x cs ifs elt Kp vs τ₁.objs ys ob' → CTurns prog K g d x cs ifs elt Kp (v :: vs) ob ys ob'
theorem CTurns.kp {g : Fx} {x : Str} {cs : List (Str × Nat)} {ifs : List Expr} {elt : Expr} {Kp : List AO → Prop} {vs ys : List AV} {ob ob' : List AO} (h : CTurns prog K g d x cs ifs elt Kp vs ob ys ob') : Kp ob := by cases h <;> assumption
/-- the inner frame -/
noncomputable def inner (scope : Scope) (cl : List (Str × Addr)) (C : Addr) (c : Cx) (m m₂ : Str → Option Value) : Cx := { c with env := compEnvC scope cl C c.env, comp := some (m, m₂) }
theorem append_lst {prog : Program} {w : World} {A : Around} {E : Value → Shared → Prop} {s : Shared} {D : Addr} {vs : List Value} {u : Value} {Q : Value → Shared → Prop} (ho : s.heap.get? D = some (LCg.lst vs)) (hsz : vs.length ≤ sizeLine)
    (h : ∀ h', Heap.SameBut D s.heap h' → h'.get? D = some (LCg.lst (vs ++ [u])) → Q .none { s with heap := h' }) : wpAny (model prog w) A (call (.builtin "list.append") [.ref D, u]) Q E s :=
  append_at (hsz := by rw [List.size_toArray]; exact hsz) ho fun h' hs hD => h h' hs (hD.trans (congrArg some (LCg.lst_snoc vs u)))
theorem RVs.app {as : List Addr} {xs ys : List AV} {vs us : List Value} (h : RVs as xs vs) (g : RVs as ys us) : RVs as (xs ++ ys) (vs ++ us) := by
  induction h with
  | nil => exact g
  | cons r _ ih => exact .cons r ih
theorem RVs.len {as : List Addr} {xs : List AV} {vs : List Value} (h : RVs as xs vs) : vs.length = xs.length := h.length
structure CompOk (f g : Fx) (scope : Scope) (x : Str) (cs : List (Str × Nat)) (cells : List (Str × Nat)) : Prop where
  kind : scope.kind = .function
  cell : ∀ y ∈ scope.names, y.2 ≠ .cell
  names : ∀ y ∈ scope.names, y.2 = .local → look y.1 scope.names = some .local
  x : look x scope.names = some .local
  g : g = ⟨relab f.cs scope, false⟩
  fn : f.fn = true
  free : ∀ y, (y, NameKind.free) ∈ scope.names → ∃ i, (y, i) ∈ cells
  cs : ∀ p ∈ cs, p ∈ cells ∧ (p.1, NameKind.free) ∈ scope.names
theorem inner_ok {g : Fx} {scope : Scope} {x : Str} {cs cells : List (Str × Nat)} {cl : List (Str × Addr)} {C : Addr} {oC : Obj} {m₂ : Str → Option Value} (ok : Ok K f d c) (co : CompOk f g scope x cs cells) (hC : (C, oC) ∈ c.rest) (hn : LCg.NsObj oC m₂) : Ok K g d (inner scope cl C c m m₂) :=
  have hsc : relabel scope c.env = g.cs := by rw [relab_eq ok.scope, co.g]
  { scope := hsc, globals := ok.globals, builtins := ok.builtins, kin := ok.kin, top := ok.top, kind := by rw [co.g]; exact co.kind, depth := ok.depth, units := ok.units, handled := ok.handled
    fn := fun h => by rw [co.g] at h; cases h
    cmp := fun _ => ⟨C, oC, m, m₂, rfl, rfl, hC, hn⟩ }
theorem inner_at {g : Fx} {scope : Scope} {x : Str} {cs : List (Str × Nat)} {cl : List (Str × Addr)} {C : Addr} {m₂ : Str → Option Value} {av : AV} {v : Value} (R : At c as os m σ s) (co : CompOk f g scope x cs σ.cells) (hcl : ∀ y, (y, NameKind.free) ∈ scope.names → cl.lookup y = c.env.cells.lookup y)
    (hmx : m₂ x = some v) (rv : RV as av v) : At (inner scope cl C c m m₂) as os m ⟨σ.objs, [(x, some av)], cs⟩ s :=
  { gens := R.gens, os_ := R.os_, fr := R.fr, news := R.news, len := R.len, len' := R.len', nodup := R.nodup, objs := R.objs
    locs := fun z av hz => by
      rcases List.mem_cons.mp hz with e | hz
      · cases e; exact ⟨v, hmx, rv⟩
      · cases hz
    keys := by simp
    cells := fun z i hz => by
      obtain ⟨h1, h2⟩ := co.cs _ hz
      obtain ⟨a, h3, h4⟩ := R.cells z i h1
      exact ⟨a, (hcl z h2).trans h3, h4⟩
    comp := fun p e => by cases e; rfl }
theorem inner_back {scope : Scope} {cl : List (Str × Addr)} {C : Addr} {m₂ m₅ : Str → Option Value} {bs : List Addr} {os' : List Obj} {τ : S} {s₅ : Shared} (R : At c as os m σ s) (R₅ : At (inner scope cl C c m m₂) (as ++ bs) os' m₅ τ s₅) : At c (as ++ bs) os' m { σ with objs := τ.objs } s₅ := by
  have e : m₅ = m := R₅.comp _ rfl
  subst e
  exact { gens := R₅.gens, os_ := R₅.os_, fr := R₅.fr, news := R₅.news, len := R₅.len, len' := R₅.len', nodup := R₅.nodup, objs := R₅.objs
          locs := fun z av hz => let ⟨u, h1, h2⟩ := R.locs z av hz; ⟨u, h1, h2.up⟩
          keys := R.keys
          cells := fun z i hz => let ⟨a, h1, h2⟩ := R.cells z i hz; ⟨a, h1, getElem?_app h2⟩
          comp := R.comp }
theorem inner_tests {g : Fx} {ifs : List Expr} {b : Bool} {τ τ₁ : S} {Q : Bool → Shared → Prop} {E : Value → Shared → Prop} (ok : Ok K g d c) (R : At c as os m τ s) (he : EvIfs prog K g d ifs τ b τ₁) (hq : ∀ bs₁ os₁ m₁ s₁, At c (as ++ bs₁) os₁ m₁ τ₁ s₁ → Q b s₁) :
    wpAny (model prog c.w) c.A (forIn ifs true fun c' r => if r = true then do let ok ← isTrue c' c.env (eval c' c.env); pure (ForInStep.yield ok) else pure (ForInStep.yield r)) Q E s := by
  cases he with
  | nil => exact wpAny_tests_nil (hq [] os m s (by rw [app_nil]; exact R))
  | one hT => exact wpAny_tests_one (hT _ ok _ os m s _ _ R fun bs₁ os₁ m₁ s₁ R₅ => hq bs₁ os₁ m₁ s₁ R₅)
/-- what is true ahead of each turn -/
inductive CInv (prog : Program) (K : Params → Frag) (f g : Fx) (d : Nat) (x : Str) (cs : List (Str × Nat)) (ifs : List Expr) (elt : Expr) (Kp : List AO → Prop) (items : List AV) (It : Nat → Obj → Prop) (c : Cx) (as : List Addr) (I D C : Addr) (σ : S) (ys : List AV) (ob' : List AO) (n : Nat) (s : Shared) : Prop
  | mk (k : Nat) (bs : List Addr) (os : List Obj) (m : Str → Option Value) (ob : List AO) (xs : List AV) (vs : List Value) (zs : List AV) (o oC : Obj) (m' : Str → Option Value) (hn : n = items.length - k) (hk : k ≤ items.length) (hvl : vs.length ≤ k) (R : At (addR (addR (addR c D (LCg.lst vs)) C oC) I o) (as ++ bs) os m { σ with objs := ob } s)
    (hI : It k o) (hoC : LCg.NsObj oC m') (hvs : RVs (as ++ bs) xs vs) (T : CTurns prog K g d x cs ifs elt Kp (items.drop k) ob zs ob') (hy : ys = xs ++ zs) : CInv prog K f g d x cs ifs elt Kp items It c as I D C σ ys ob' n s
theorem comp_run {g : Fx} {scope : Scope} {x : Str} {px pos : Pos} {iter elt : Expr} {ifs : List Expr} {cs : List (Str × Nat)} {Kp : List AO → Prop} {items ys : List AV} {It : Nat → Obj → Prop} {ob' : List AO} {ao : AO} {cl : List (Str × Addr)} {Q : Value → Shared → Prop} {E : Value → Shared → Prop}
    (ok : Ok K f d c) (co : CompOk f g scope x cs σ.cells) (W : ∀ D oD C oC, Src prog K f d (.Name x px) (addR (addR c D oD) C oC) as I (fun τ => Kp τ.objs) items It) (hcl : ∀ y, (y, NameKind.free) ∈ scope.names → cl.lookup y = c.env.cells.lookup y)
    (ht : CTurns prog K g d x cs ifs elt Kp items σ.objs ys ob') (R : At (addR c I o) as os m σ s) (hI : It 0 o) (hz : items.length ≤ sizeLine) (hao : WkO (.list ys) ao)
    (hq : ∀ bs os' m' v s', RV (as ++ bs) (.obj ob'.length) v → At c (as ++ bs) os' m' { σ with objs := ob' ++ [ao] } s' → Q v s') :
    wpAny (model prog c.w) c.A (newList []) (fun acc s₃ => wpAny (model prog c.w) c.A (newFunctionEnv scope c.env.globals cl [] c.env.qual none .none (some c.env)) (fun cenv s₄ =>
      codeAny (model prog c.w) c.A (.compStart (.ListComp elt [⟨.Name x px, iter, ifs, 0⟩] scope pos) 0 (.ref I) acc { cenv with scope := relabel scope c.env }) (compPost (model prog c.w) c.A E none Q acc cenv.locals) s₄) E s₃) E s := by
  refine wpAny_newObj_type (wpAny_newFunctionEnv co.cell (by intro y hy; simp at hy) (fun h₁ hns₁ hsb₁ => ?_) co.kind)
  dsimp only at hns₁ hsb₁ ⊢
  have R1 := R.pushR (o := LCg.lst []) (Heap.get?_push_size _ rfl)
  generalize hH2 : s.heap.push { cls := .type "list", dict := none, data := .seq ([] : List Value).toArray } = H2 at hns₁ hsb₁ ⊢
  have R1 : At (addR (addR c I o) s.heap.objs.size (LCg.lst [])) as os m σ { s with heap := H2 } := by rw [← hH2]; exact R1
  have R2 := R1.pushR (o := { cls := .type "dict", data := .dict #[] }) (Heap.get?_push_size _ rfl)
  obtain ⟨oC₀, heC₀, hoC₀⟩ := LCg.ns_obj hns₁
  have R3 := R2.chR (tk := s.toks + ([] : List (Str × Value)).length) hsb₁.extBut heC₀
  have R4 := R3.rot
  clear R1 R2 R3
  generalize s.heap.objs.size = D at R4 ⊢
  have hxl : scope.names.lookup x = some .local := by rw [← look_lookup]; exact co.x
  have loop : ∀ s₃ : Shared, s₃ = { s with heap := h₁, toks := s.toks + ([] : List (Str × Value)).length } →
      codeAny (model prog c.w) c.A (.compLoop (.ListComp elt [⟨.Name x px, iter, ifs, 0⟩] scope pos) 0 (.ref I) (.ref D) (compEnvC scope cl H2.objs.size c.env)) (compPost (model prog c.w) c.A E none Q (.ref D) H2.objs.size) s₃ := by
    rintro s₃ rfl
    generalize H2.objs.size = C at R4 ⊢
    refine codeAny_compLoop_tests (CInv prog K f g d x cs ifs elt Kp items It c as I D C σ ys ob') ?_ (items.length - 0)
      (.mk 0 [] os m σ.objs [] [] ys o oC₀ _ rfl (Nat.zero_le _) (Nat.zero_le _) (by rw [app_nil]; exact R4) hI hoC₀ .nil ht rfl)
    rintro n s ⟨k, bs, os, m, ob, xs, vs, zs, o, oC, m', rfl, hk, hvl, R, hI, hoC, hvs, T, rfl⟩
    by_cases hlt : k < items.length
    · have hx : items[k]? = some items[k] := List.getElem?_eq_getElem hlt
      rw [List.drop_eq_getElem_cons hlt] at T
      refine (W D _ C oC).next k _ bs os m _ s o _ _ R T.kp hI hx fun v s₁ o₁ rv R₁ hI₁ => ?_
      dsimp only
      have R₂ := R₁.swap
      refine wpAny_assign_Name (wpAny_storeName_local (lookup_relabel_local hxl) (hoC.ns R₂.mem.1) (fun h₃ hn₃ hs₃ => ?_) (by simp [compEnvC, relabel, co.kind]))
      obtain ⟨oC', heC', hoC'⟩ := LCg.ns_obj hn₃
      have R₃ := R₂.chR (tk := s₁.toks + 1) hs₃.extBut heC'
      generalize hs₄ : ({ s₁ with heap := h₃, toks := s₁.toks + 1 } : Shared) = s₄ at R₃ ⊢
      generalize hm₂ : (fun z => if z = x then some v else m' z) = m₂ at hoC'
      have hmx : m₂ x = some v := by rw [← hm₂]; simp
      have okc : Ok K f d (addR (addR (addR c D (LCg.lst vs)) I o₁) C oC') := ok.addR.addR.addR
      have okin : Ok K g d (inner scope cl C (addR (addR (addR c D (LCg.lst vs)) I o₁) C oC') m m₂) := inner_ok okc co (List.mem_append_right _ (.head _)) hoC'
      have R₄ := inner_at (cl := cl) (C := C) (m₂ := m₂) R₃ co hcl hmx rv
      cases T with
      | @keep _ _ y zs' _ _ τ₁ τ₂ kp h1 h2 T' =>
        refine inner_tests okin R₄ h1 fun bs₁ os₁ m₁ s₅ R₅ => ?_
        simp only [if_true]
        refine h2 _ okin _ os₁ m₁ s₅ _ _ R₅ fun bs₂ os₂ m₂' u s₆ ru R₆ => ?_
        rw [List.append_assoc (as ++ bs)] at R₆ ru
        have R₇ := (inner_back R₃ R₆).rot
        refine append_lst R₇.mem.1 (by omega) fun h₅ hs₅ hD₅ => ?_
        · have R₈ := (R₇.chR (tk := s₆.toks) hs₅.extBut hD₅).rot.rot.swap
          rw [List.append_assoc as] at R₈ ru
          refine ⟨items.length - (k + 1), by omega, .mk (k + 1) _ os₂ m τ₂.objs (xs ++ [y]) (vs ++ [u]) zs' o₁ oC' m₂ rfl hlt (by rw [List.length_append]; exact Nat.succ_le_succ hvl) R₈ hI₁ hoC' ?_ T' (by simp)⟩
          have := hvs.up (bs := bs₁ ++ bs₂)
          rw [List.append_assoc] at this
          exact this.app (.cons ru .nil)
      | skip kp h1 T' =>
        refine inner_tests okin R₄ h1 fun bs₁ os₁ m₁ s₅ R₅ => ?_
        simp only [Bool.false_eq_true, if_false]
        have R₈ := (inner_back R₃ R₅).swap
        rw [List.append_assoc as] at R₈
        refine ⟨items.length - (k + 1), by omega, .mk (k + 1) _ os₁ m _ xs vs zs o₁ oC' m₂ rfl hlt (Nat.le_succ_of_le hvl) R₈ hI₁ hoC' ?_ T' rfl⟩
        have := hvs.up (bs := bs₁)
        rw [List.append_assoc] at this
        exact this
    · obtain rfl : k = items.length := by omega
      rw [List.drop_length] at T
      cases T with
      | nil kp =>
        refine (W D _ C oC).done bs os m _ s o _ _ R kp hI fun s' R' => ?_
        dsimp only
        show ∃ m, s'.heap.Ns C m ∧ ∀ h', Heap.SameBut C s'.heap h' → Q (.ref D) { s' with heap := h' }
        refine ⟨m', hoC.ns R'.mem.1, fun h' hs' => ?_⟩
        have R'' := R'.dropR hs'.extBut
        rw [List.append_nil] at hao
        obtain ⟨R₉, r₉⟩ := R''.takeR (ao := ao) (hao _ _ _ ⟨vs.toArray, vs.length, rfl, by simpa using hvs.up⟩)
        rw [List.append_assoc] at R₉ r₉
        exact hq _ _ _ _ _ r₉ R₉
  exact codeAny_compStart_list (loop _ rfl) ((W D (LCg.lst []) D oC₀).self 0 _ _ _ _ R4.mem.1 hI (loop _ rfl))
theorem src_more {t : Expr} {Kp : S → Prop} {items : List AV} {It : Nat → Obj → Prop} {bs : List Addr} (W : Src prog K f d t c as I Kp items It) : Src prog K f d t c (as ++ bs) I Kp items It where
  next := fun k x bs' os m σ s o Q E R kp hI hx hq => by
    rw [List.append_assoc] at R hq
    exact W.next k x (bs ++ bs') os m σ s o Q E R kp hI hx hq
  done := fun bs' os m σ s o Q E R kp hI hq => by
    rw [List.append_assoc] at R hq
    exact W.done (bs ++ bs') os m σ s o Q E R kp hI hq
  self := W.self
  go := W.go
theorem EvE.compL {g : Fx} {scope : Scope} {x : Str} {px pos : Pos} {iter elt : Expr} {ifs : List Expr} {cs : List (Str × Nat)} {items ys : List AV} {ob' : List AO} {ao : AO} {y : AV} (h : EvE prog K f d iter σ y σ₁) (hs : SrcL K σ₁ y items) (co : CompOk f g scope x cs σ₁.cells) (hc : σ₁.cells = σ.cells)
    (ht : CTurns prog K g d x cs ifs elt (fun ob => SrcL K ⟨ob, [], []⟩ y items) items σ₁.objs ys ob') (hz : items.length ≤ 60000) (hao : WkO (.list ys) ao) (hi : ∀ env x, foldedSetIterable iter env x = pure x) :
    EvE prog K f d (.ListComp elt [⟨.Name x px, iter, ifs, 0⟩] scope pos) σ (.obj ob'.length) { σ₁ with objs := ob' ++ [ao] } := by
  intro c ok as os m s Q E R hq
  rw [eval_ListComp]
  obtain ⟨cl, h1, h2⟩ := closureFor_of (scope := scope) (env := c.env) fun y hy => by
    obtain ⟨i, hi⟩ := co.free y hy
    rw [hc] at hi
    obtain ⟨a, ha, _⟩ := R.cells y i hi
    exact ⟨a, ha⟩
  refine wpAny_comprehension_free (use := none) rfl (hi _) h1 co.kind (fun y hy e => by rw [← look_lookup]; exact co.names y hy e) (h c ok as os m s _ E R fun bs os₁ m₁ v s₁ rv R₁ => ?_)
  obtain ⟨t, vs, rfl, hl, rs⟩ := hs.at ok R₁ rv
  refine wpAny_pyIter_list hl ?_
  have kp : ∀ τ : S, SrcL K τ y items = SrcL K ⟨τ.objs, [], []⟩ y items := fun τ => propext ⟨fun q => by
    cases q with
    | told q1 q2 => exact .told q1 q2
    | kept q1 => exact .kept q1, fun q => by
    cases q with
    | told q1 q2 => exact .told q1 q2
    | kept q1 => exact .kept q1⟩
  refine comp_run (It := isListIter t) (Kp := fun ob => SrcL K ⟨ob, [], []⟩ y items) ok co (fun D oD C oC => ?_) h2 ht (R₁.pushR (Heap.get?_push_size _ rfl)) ⟨rfl, rfl⟩ (Nat.le_trans hz (by decide +kernel)) hao fun bs₂ os₂ m₂ v s₂ rv R₂ => ?_
  · have := src_list (I := s₁.heap.objs.size) (prog := prog) (f := f) (target := .Name x px) (xs := items) (ok.addR (I := D) (o := oD)).addR (c := addR (addR c D oD) C oC) rfl rv
    simp only [kp] at this
    exact this
  · rw [List.append_assoc] at rv R₂
    exact hq _ _ _ _ _ rv R₂
theorem EvE.compR {g : Fx} {scope : Scope} {x : Str} {px pos : Pos} {iter elt : Expr} {ifs : List Expr} {cs : List (Str × Nat)} {ys : List AV} {ob' : List AO} {ao : AO} {i n : Nat} {a b k : Int} (h : EvE prog K f d iter σ (.obj i) σ₁) (ho : σ₁.objs[i]? = some (.rng a b k)) (hsm : Builtin.Range.small a b k = true) (hn : Builtin.Range.rangeSize a b k = (n : Int)) (co : CompOk f g scope x cs σ₁.cells) (hc : σ₁.cells = σ.cells)
    (ht : CTurns prog K g d x cs ifs elt (fun _ => True) (rangeAV a k 0 n) σ₁.objs ys ob') (hz : n ≤ 60000) (hao : WkO (.list ys) ao) (hi : ∀ env x, foldedSetIterable iter env x = pure x) :
    EvE prog K f d (.ListComp elt [⟨.Name x px, iter, ifs, 0⟩] scope pos) σ (.obj ob'.length) { σ₁ with objs := ob' ++ [ao] } := by
  intro c ok as os m s Q E R hq
  rw [eval_ListComp]
  obtain ⟨cl, h1, h2⟩ := closureFor_of (scope := scope) (env := c.env) fun y hy => by
    obtain ⟨i, hi⟩ := co.free y hy
    rw [hc] at hi
    obtain ⟨a, ha, _⟩ := R.cells y i hi
    exact ⟨a, ha⟩
  refine wpAny_comprehension_free (use := none) rfl (hi _) h1 co.kind (fun y hy e => by rw [← look_lookup]; exact co.names y hy e) (h c ok as os m s _ E R fun bs os₁ m₁ v s₁ rv R₁ => ?_)
  obtain ⟨q, o, g1, _, _, g2, t, u, v', rfl⟩ := R₁.obj ho
  obtain ⟨q', e, rfl⟩ := rv
  rw [g1] at e; cases e
  refine wpAny_pyIter_range g2 hsm ?_
  refine comp_run (It := isRangeIter a k n) (Kp := fun _ => True) ok co (fun D oD C oC => src_range (ok.addR (I := D) (o := oD)).addR) h2 ht (R₁.pushR (Heap.get?_push_size _ rfl)) (by unfold isRangeIter; rw [hn]; simp) (by rw [rangeAV_len]; exact Nat.le_trans hz (by decide +kernel)) hao fun bs₂ os₂ m₂ v s₂ rv R₂ => ?_
  rw [List.append_assoc] at rv R₂
  exact hq _ _ _ _ _ rv R₂
end
end Mine
/-! text M17 -/
open PySem PySem.W PyProof.Rows PySem.Spec PySem.Calls
set_option Elab.async false
set_option maxRecDepth 100000
namespace Mine
/-! the same objects under other numbers -/
noncomputable def idx (i : Nat) : List Nat → Option Nat
  | [] => none
  | j :: r => match Nat.beq j i with
    | true => some 0
    | false => match idx i r with
      | some k => some (Nat.succ k)
      | none => none
theorem idx_of {i : Nat} : ∀ {l : List Nat} {k : Nat}, idx i l = some k → l[k]? = some i
  | [], _, h => nomatch h
  | j :: r, k, h => by
    unfold idx at h
    cases e : Nat.beq j i with
    | true => rw [e] at h; cases h; simp [Nat.eq_of_beq_eq_true e]
    | false =>
      rw [e] at h
      cases q : idx i r with
      | none => rw [q] at h; first | exact no_ h | cases h
      | some k' => rw [q] at h; cases h; simpa using idx_of q
theorem idx_none {i : Nat} : ∀ {l : List Nat}, idx i l = none → i ∉ l
  | [], _ => fun h => nomatch h
  | j :: r, h => by
    unfold idx at h
    cases e : Nat.beq j i with
    | true => rw [e] at h; first | exact no_ h | cases h
    | false =>
      rw [e] at h
      cases q : idx i r with
      | none =>
        intro hm
        rcases List.mem_cons.mp hm with e' | hm
        · subst e'; rw [Nat.beq_refl] at e; cases e
        · exact idx_none q hm
      | some k' => rw [q] at h; first | exact no_ h | cases h
noncomputable def renV (sel : List Nat) : AV → Option AV
  | .obj i => match idx i sel with
    | some k => some (.obj k)
    | none => none
  | x => some x
noncomputable def renVs (sel : List Nat) : List AV → Option (List AV)
  | [] => some []
  | x :: xs => match renV sel x with
    | some y => match renVs sel xs with
      | some ys => some (y :: ys)
      | none => none
    | none => none
noncomputable def renEs (sel : List Nat) : List (Str × AV) → Option (List (Str × AV))
  | [] => some []
  | (k, x) :: xs => match renV sel x with
    | some y => match renEs sel xs with
      | some ys => some ((k, y) :: ys)
      | none => none
    | none => none
noncomputable def renO (sel : List Nat) : AO → Option AO
  | .list xs => match renVs sel xs with
    | some ys => some (.list ys)
    | none => none
  | .il xs => some (.il xs)
  | .tup xs => match renVs sel xs with
    | some ys => some (.tup ys)
    | none => none
  | .dict es => match renEs sel es with
    | some ys => some (.dict ys)
    | none => none
  | .inst C d => match idx d sel with
    | some k => some (.inst C k)
    | none => none
  | .attrs es => match renEs sel es with
    | some ys => some (.attrs ys)
    | none => none
  | .meth f x => match renV sel x with
    | some y => some (.meth f y)
    | none => none
  | .cell none => some (.cell none)
  | .cell (some x) => match renV sel x with
    | some y => some (.cell (some y))
    | none => none
  | .rng a b c => some (.rng a b c)
  | .junk => some .junk
noncomputable def RelA (sel : List Nat) (as as' : List Addr) : Prop := ∀ (k i : Nat), sel[k]? = some i → ∀ a, as[i]? = some a → as'[k]? = some a
section
variable {sel : List Nat} {as as' : List Addr}
theorem RV.ren (h : RelA sel as as') {x y : AV} {v : Value} (e : renV sel x = some y) (r : RV as x v) : RV as' y v := by
  cases x with
  | obj i =>
    unfold renV at e
    dsimp only at e
    cases q : idx i sel with
    | none => rw [q] at e; cases e
    | some k =>
      rw [q] at e; cases e
      obtain ⟨a, h1, h2⟩ := r
      exact ⟨a, h k i (idx_of q) a h1, h2⟩
  | _ => cases e; exact r
theorem RVs.ren (h : RelA sel as as') {xs : List AV} {vs : List Value} (r : RVs as xs vs) : ∀ {ys : List AV}, renVs sel xs = some ys → RVs as' ys vs := by
  induction r with
  | nil => intro ys e; cases e; exact .nil
  | @cons x xs v vs r _ ih =>
    intro ys e
    unfold renVs at e
    cases q : renV sel x with
    | none => rw [q] at e; cases e
    | some y =>
      rw [q] at e
      cases q2 : renVs sel xs with
      | none => rw [q2] at e; cases e
      | some zs => rw [q2] at e; cases e; exact .cons (r.ren h q) (ih q2)
theorem renEs_keys : ∀ {xs ys : List (Str × AV)}, renEs sel xs = some ys → ys.map (·.1) = xs.map (·.1)
  | [], ys, e => by cases e; rfl
  | (k, x) :: xs, ys, e => by
    unfold renEs at e
    cases q : renV sel x with
    | none => rw [q] at e; cases e
    | some y =>
      rw [q] at e
      cases q2 : renEs sel xs with
      | none => rw [q2] at e; cases e
      | some zs => rw [q2] at e; cases e; simp [renEs_keys q2]
theorem REs.ren {P : Params} (h : RelA sel as as') {xs : List (Str × AV)} {vs : List DictEntry} (r : REs P as xs vs) : ∀ {ys : List (Str × AV)}, renEs sel xs = some ys → REs P as' ys vs := by
  induction r with
  | nil => intro ys e; cases e; exact .nil
  | @cons p xs v vs r _ ih =>
    obtain ⟨k, x⟩ := p
    intro ys e
    unfold renEs at e
    cases q : renV sel x with
    | none => rw [q] at e; cases e
    | some y =>
      rw [q] at e
      cases q2 : renEs sel xs with
      | none => rw [q2] at e; cases e
      | some zs =>
        rw [q2] at e; cases e
        obtain ⟨t, u, e1, e2⟩ := r
        exact .cons ⟨t, u, e1, e2.ren h q⟩ (ih q2)
theorem RO.ren {P : Params} (h : RelA sel as as') {x y : AO} {o : Obj} (r : RO P as x o) (e : renO sel x = some y) : RO P as' y o := by
  unfold renO at e
  cases x with
  | list xs =>
    dsimp only at e
    cases q : renVs sel xs with
    | none => rw [q] at e; cases e
    | some ys => rw [q] at e; cases e; obtain ⟨vs, n, e1, e2⟩ := r; exact ⟨vs, n, e1, e2.ren h q⟩
  | il xs => cases e; exact r
  | tup xs =>
    dsimp only at e
    cases q : renVs sel xs with
    | none => rw [q] at e; cases e
    | some ys => rw [q] at e; cases e; obtain ⟨vs, n, e1, e2⟩ := r; exact ⟨vs, n, e1, e2.ren h q⟩
  | dict xs =>
    dsimp only at e
    cases q : renEs sel xs with
    | none => rw [q] at e; cases e
    | some ys => rw [q] at e; cases e; obtain ⟨vs, n, e1, e2, e3⟩ := r; exact ⟨vs, n, e1, e2.ren h q, by rw [renEs_keys q]; exact e3⟩
  | inst C d =>
    dsimp only at e
    cases q : idx d sel with
    | none => rw [q] at e; cases e
    | some k => rw [q] at e; cases e; obtain ⟨a, e1, e2⟩ := r; exact ⟨a, h _ _ (idx_of q) _ e1, e2⟩
  | attrs xs =>
    dsimp only at e
    cases q : renEs sel xs with
    | none => rw [q] at e; cases e
    | some ys => rw [q] at e; cases e; obtain ⟨vs, n, e1, e2, e3⟩ := r; exact ⟨vs, n, e1, e2.ren h q, by rw [renEs_keys q]; exact e3⟩
  | meth f x =>
    dsimp only at e
    cases q : renV sel x with
    | none => rw [q] at e; cases e
    | some y => rw [q] at e; cases e; obtain ⟨v, e1, e2⟩ := r; exact ⟨v, e1.ren h q, e2⟩
  | cell v =>
    cases v with
    | none => cases e; obtain ⟨u, e1, e2⟩ := r; exact ⟨u, e1, by cases u <;> exact e2⟩
    | some x =>
      dsimp only at e
      cases q : renV sel x with
      | none => rw [q] at e; cases e
      | some y =>
        rw [q] at e; cases e
        obtain ⟨u, e1, e2⟩ := r
        refine ⟨u, e1, ?_⟩
        cases u with
        | none => exact e2
        | some u => exact RV.ren h q e2
  | rng a b c => cases e; exact r
  | junk => cases e; trivial
end
/-! back -/
noncomputable def embV (e : Nat → Nat) : AV → AV
  | .obj i => .obj (e i)
  | x => x
noncomputable def embO (e : Nat → Nat) : AO → AO
  | .list xs => .list (xs.map (embV e))
  | .il xs => .il xs
  | .tup xs => .tup (xs.map (embV e))
  | .dict es => .dict (es.map fun p => (p.1, embV e p.2))
  | .inst C d => .inst C (e d)
  | .attrs es => .attrs (es.map fun p => (p.1, embV e p.2))
  | .meth f x => .meth f (embV e x)
  | .cell none => .cell none
  | .cell (some x) => .cell (some (embV e x))
  | .rng a b c => .rng a b c
  | .junk => .junk
noncomputable def RelE (e : Nat → Nat) (as' as : List Addr) : Prop := ∀ (k : Nat) a, as'[k]? = some a → as[e k]? = some a
section
variable {e : Nat → Nat} {as as' : List Addr}
theorem RV.emb (h : RelE e as' as) {x : AV} {v : Value} (r : RV as' x v) : RV as (embV e x) v := by
  cases x with
  | obj i => obtain ⟨a, h1, h2⟩ := r; exact ⟨a, h _ _ h1, h2⟩
  | _ => exact r
theorem RVs.emb (h : RelE e as' as) {xs : List AV} {vs : List Value} (r : RVs as' xs vs) : RVs as (xs.map (embV e)) vs := by
  induction r with
  | nil => exact .nil
  | cons r _ ih => exact .cons (r.emb h) ih
theorem REs.emb {P : Params} (h : RelE e as' as) {xs : List (Str × AV)} {vs : List DictEntry} (r : REs P as' xs vs) : REs P as (xs.map fun p => (p.1, embV e p.2)) vs := by
  induction r with
  | nil => exact .nil
  | cons r _ ih => obtain ⟨t, u, e1, e2⟩ := r; exact .cons ⟨t, u, e1, e2.emb h⟩ ih
theorem emb_keys {xs : List (Str × AV)} : (xs.map fun p => (p.1, embV e p.2)).map (·.1) = xs.map (·.1) := by simp
theorem RO.emb {P : Params} (h : RelE e as' as) {x : AO} {o : Obj} (r : RO P as' x o) : RO P as (embO e x) o := by
  cases x with
  | list xs => obtain ⟨vs, n, e1, e2⟩ := r; exact ⟨vs, n, e1, e2.emb h⟩
  | il xs => exact r
  | tup xs => obtain ⟨vs, n, e1, e2⟩ := r; exact ⟨vs, n, e1, e2.emb h⟩
  | dict xs => obtain ⟨vs, n, e1, e2, e3⟩ := r; exact ⟨vs, n, e1, e2.emb h, by rw [emb_keys]; exact e3⟩
  | inst C d => obtain ⟨a, e1, e2⟩ := r; exact ⟨a, h _ _ e1, e2⟩
  | attrs xs => obtain ⟨vs, n, e1, e2, e3⟩ := r; exact ⟨vs, n, e1, e2.emb h, by rw [emb_keys]; exact e3⟩
  | meth f x => obtain ⟨v, e1, e2⟩ := r; exact ⟨v, e1.emb h, e2⟩
  | cell v =>
    cases v with
    | none => obtain ⟨u, e1, e2⟩ := r; exact ⟨u, e1, by cases u <;> exact e2⟩
    | some x =>
      obtain ⟨u, e1, e2⟩ := r
      refine ⟨u, e1, ?_⟩
      cases u with
      | none => exact e2
      | some u => exact RV.emb h e2
  | rng a b c => exact r
  | junk => trivial
end
/-! what is picked -/
noncomputable def pickA {α : Type} (d : α) (sel : List Nat) (l : List α) : List α := sel.map fun i => l.getD i d
theorem pickA_get {α : Type} {d : α} {sel : List Nat} {l : List α} (h : ∀ i ∈ sel, i < l.length) {k i : Nat} (hk : sel[k]? = some i) : (pickA d sel l)[k]? = l[i]? := by
  unfold pickA
  rw [List.getElem?_map, hk]
  have := h i (List.mem_of_getElem? hk)
  simp [List.getD_eq_getElem?_getD, List.getElem?_eq_getElem this]
theorem pickA_mem {α : Type} {d : α} {sel : List Nat} {l : List α} (h : ∀ i ∈ sel, i < l.length) {a : α} (ha : a ∈ pickA d sel l) : ∃ i ∈ sel, l[i]? = some a := by
  obtain ⟨i, hi, rfl⟩ := List.mem_map.mp ha
  exact ⟨i, hi, by simp [List.getD_eq_getElem?_getD, List.getElem?_eq_getElem (h i hi)]⟩
theorem nodup_inj {l : List Addr} (nd : l.Nodup) {i j : Nat} {a : Addr} (h1 : l[i]? = some a) (h2 : l[j]? = some a) : i = j := by
  obtain ⟨hi, e1⟩ := List.getElem?_eq_some_iff.mp h1
  obtain ⟨hj, e2⟩ := List.getElem?_eq_some_iff.mp h2
  have P := List.pairwise_iff_getElem.mp nd
  rcases Nat.lt_trichotomy i j with h | h | h
  · exact absurd (e1.trans e2.symm) (P i j hi hj h)
  · exact h
  · exact absurd (e2.trans e1.symm) (P j i hj hi h)
theorem pickA_nodup {d : Addr} {l : List Addr} (nd : l.Nodup) : ∀ {sel : List Nat}, sel.Nodup → (∀ i ∈ sel, i < l.length) → (pickA d sel l).Nodup
  | [], _, _ => .nil
  | i :: r, hs, h => by
    refine List.nodup_cons.mpr ⟨fun hm => ?_, pickA_nodup nd (List.nodup_cons.mp hs).2 fun j hj => h j (.tail _ hj)⟩
    obtain ⟨j, hj, e⟩ := pickA_mem (sel := r) (fun j hj => h j (.tail _ hj)) hm
    have hi := h i (.head _)
    have e' : l[i]? = some (l.getD i d) := by simp [List.getD_eq_getElem?_getD, List.getElem?_eq_getElem hi]
    have := nodup_inj nd e e'
    subst this
    exact (List.nodup_cons.mp hs).1 hj
theorem pickA_zip {d : Addr} {d' : Obj} {sel : List Nat} {as : List Addr} {os : List Obj} (h : ∀ i ∈ sel, i < as.length) (hl : os.length = as.length) : ∀ p ∈ (pickA d sel as).zip (pickA d' sel os), p ∈ as.zip os := by
  intro p hp
  unfold pickA at hp
  rw [List.zip_map'] at hp
  obtain ⟨i, hi, rfl⟩ := List.mem_map.mp hp
  have h1 := h i hi
  have h2 : i < os.length := by rw [hl]; exact h1
  exact zip_mem (i := i) (by simp [List.getD_eq_getElem?_getD, List.getElem?_eq_getElem h1]) (by simp [List.getD_eq_getElem?_getD, List.getElem?_eq_getElem h2])
noncomputable def over {α : Type} (sel : List Nat) (xs : List α) : Nat → List α → List α
  | _, [] => []
  | i, a :: r => (match idx i sel with
    | some k => match xs[k]? with
      | some x => x
      | none => a
    | none => a) :: over sel xs (Nat.succ i) r
theorem over_len {α : Type} {sel : List Nat} {xs : List α} : ∀ {l : List α} {i : Nat}, (over sel xs i l).length = l.length
  | [], _ => rfl
  | a :: r, i => by simp [over, over_len]
theorem over_get {α : Type} {sel : List Nat} {xs : List α} : ∀ {l : List α} {i j : Nat} {x : α}, (over sel xs i l)[j]? = some x → ∃ a, l[j]? = some a ∧ ((idx (i + j) sel = none ∧ x = a) ∨ ∃ k, idx (i + j) sel = some k ∧ ((xs[k]? = none ∧ x = a) ∨ xs[k]? = some x))
  | [], _, _, _, h => by simp [over] at h
  | a :: r, i, 0, x, h => by
    simp only [over, List.getElem?_cons_zero, Option.some.injEq] at h
    refine ⟨a, rfl, ?_⟩
    rw [Nat.add_zero]
    cases e : idx i sel with
    | none => rw [e] at h; exact .inl ⟨rfl, h.symm⟩
    | some k =>
      rw [e] at h
      dsimp only at h
      cases q : xs[k]? with
      | none => rw [q] at h; exact .inr ⟨k, rfl, .inl ⟨q, h.symm⟩⟩
      | some y => rw [q] at h; exact .inr ⟨k, rfl, .inr (q.trans (congrArg some h))⟩
  | a :: r, i, j + 1, x, h => by
    simp only [over, List.getElem?_cons_succ] at h
    obtain ⟨b, h1, h2⟩ := over_get h
    refine ⟨b, by simpa using h1, ?_⟩
    rw [show i + (j + 1) = Nat.succ i + j by omega]
    exact h2
end Mine
/-! text M18 -/
open PySem PySem.W PyProof.Rows PySem.Spec PySem.Calls
set_option Elab.async false
set_option maxRecDepth 100000
namespace Mine
noncomputable def renOs (sel : List Nat) (objs : List AO) : List Nat → Option (List AO)
  | [] => some []
  | i :: r => match nth objs i with
    | some ao => match renO sel ao with
      | some bo => match renOs sel objs r with
        | some l => some (bo :: l)
        | none => none
      | none => none
    | none => none
theorem renOs_get {sel : List Nat} {objs : List AO} : ∀ {r : List Nat} {l : List AO}, renOs sel objs r = some l → l.length = r.length ∧ ∀ (k : Nat) (bo : AO), l[k]? = some bo → ∃ i ao, r[k]? = some i ∧ objs[i]? = some ao ∧ renO sel ao = some bo
  | [], l, h => by cases h; exact ⟨rfl, fun k bo h => by simp at h⟩
  | i :: r, l, h => by
    unfold renOs at h
    cases q1 : nth objs i with
    | none => rw [q1] at h; first | exact no_ h | cases h
    | some ao =>
      rw [q1] at h
      dsimp only at h
      cases q2 : renO sel ao with
      | none => rw [q2] at h; first | exact no_ h | cases h
      | some bo =>
        rw [q2] at h
        dsimp only at h
        cases q3 : renOs sel objs r with
        | none => rw [q3] at h; first | exact no_ h | cases h
        | some l' =>
          rw [q3] at h
          cases h
          obtain ⟨h1, h2⟩ := renOs_get q3
          refine ⟨by simp [h1], fun k bo' hk => ?_⟩
          cases k with
          | zero => simp at hk; subst hk; rw [nth_eq] at q1; exact ⟨i, ao, rfl, q1, q2⟩
          | succ k => obtain ⟨j, a, e1, e2, e3⟩ := h2 k bo' (by simpa using hk); exact ⟨j, a, by simpa using e1, e2, e3⟩
noncomputable def back (sel : List Nat) (n k : Nat) : Nat := match sel[k]? with
  | some i => i
  | none => n + (k - sel.length)
section
variable {prog : Program} {K : Params → Frag} {d : Nat}
theorem frame_nodup {as : List Addr} {os : List Obj} {sel : List Nat} {rest others : List (Addr × Obj)} (nd : (as ++ rest.map (·.1)).Nodup) (hnd : sel.Nodup) (lim : ∀ i ∈ sel, i < as.length) (hoth : ∀ p, p ∈ others ↔ p ∈ as.zip os ∧ p.1 ∉ pickA 0 sel as) (hs : others.Sublist (as.zip os)) (hl : os.length = as.length) :
    (pickA 0 sel as ++ (rest ++ others).map (·.1)).Nodup := by
  rw [List.map_append, List.nodup_append, List.nodup_append]
  have nd := List.nodup_append.mp nd
  refine ⟨pickA_nodup nd.1 hnd lim, ⟨nd.2.1, ?_, ?_⟩, ?_⟩
  · refine List.Nodup.sublist (hs.map (·.1)) ?_
    rw [List.map_fst_zip (by rw [hl]; exact Nat.le_refl _)]
    exact nd.1
  · intro a ha b hb e
    subst e
    obtain ⟨p, hp, rfl⟩ := List.mem_map.mp hb
    exact nd.2.2 _ (List.of_mem_zip (show (p.1, p.2) ∈ _ from ((hoth p).mp hp).1)).1 _ ha rfl
  · intro a ha b hb e
    subst e
    rcases List.mem_append.mp hb with hb | hb
    · obtain ⟨i, _, e⟩ := pickA_mem lim ha
      exact nd.2.2 _ (List.mem_of_getElem? e) _ hb rfl
    · obtain ⟨p, hp, rfl⟩ := List.mem_map.mp hb
      exact ((hoth p).mp hp).2 ha
theorem frame_locs {as bs : List Addr} {locs : List (Str × Option AV)} {lm : Str → Option Value} (R : ∀ (x : Str) av, (x, some av) ∈ locs → ∃ v, lm x = some v ∧ RV as av v) : ∀ (z : Str) av, (z, some av) ∈ locs.map (fun p => (p.1, match p.2 with | some _ => (lm p.1).map AV.val | none => none)) → ∃ v, lm z = some v ∧ RV bs av v := by
  intro z av hz
  obtain ⟨p, hp, e⟩ := List.mem_map.mp hz
  obtain ⟨y, q⟩ := p
  cases q with
  | none => simp at e
  | some av' =>
    obtain ⟨v, h1, h2⟩ := R y av' hp
    simp only [h1, Option.map_some, Prod.mk.injEq, Option.some.injEq] at e
    obtain ⟨rfl, rfl⟩ := e
    exact ⟨v, h1, rfl⟩
theorem frame_rel {as bs : List Addr} {sel : List Nat} (lim : ∀ i ∈ sel, i < as.length) : RelE (back sel as.length) (pickA 0 sel as ++ bs) (as ++ bs) := fun k a hk => by
  have lpk : (pickA 0 sel as).length = sel.length := by simp [pickA]
  unfold back
  cases e : sel[k]? with
  | some i =>
    have hlt : k < (pickA 0 sel as).length := by rw [lpk]; exact (List.getElem?_eq_some_iff.mp e).1
    rw [List.getElem?_append_left hlt, pickA_get lim e] at hk
    exact getElem?_app hk
  | none =>
    have hge := List.getElem?_eq_none_iff.mp e
    rw [List.getElem?_append_right (by rw [lpk]; exact hge), lpk] at hk
    dsimp only
    rw [List.getElem?_append_right (Nat.le_add_right _ _), Nat.add_sub_cancel_left]
    exact hk
theorem CallA.frame {mk : List Value → Args} {fa : Addr} {args argsB : List AV} {objs objsS objsS' : List AO} {x : AV} {sel : List Nat} (h : CallA prog K mk d fa args objsS x objsS') (hnd : sel.Nodup) (hlim : ∀ i ∈ sel, i < objs.length) (hren : renOs sel objs sel = some objsS) (hargs : renVs sel argsB = some args) (hlen : sel.length ≤ objsS'.length) :
    CallA prog K mk d fa argsB objs (embV (back sel objs.length) x) (over sel (objsS'.map (embO (back sel objs.length))) 0 objs ++ (objsS'.drop sel.length).map (embO (back sel objs.length))) := by
  intro f c σ hf ok hσ as os m s vs Q E R rvs hq
  subst hσ
  have la : σ.objs.length = as.length := R.len'
  have lim : ∀ i ∈ sel, i < as.length := fun i hi => by rw [← la]; exact hlim i hi
  have limo : ∀ i ∈ sel, i < os.length := fun i hi => by rw [R.len]; exact lim i hi
  have ndas : as.Nodup := (List.nodup_append.mp R.nodup).1
  have relA : RelA sel as (pickA 0 sel as) := fun k i hk a ha => by rw [pickA_get lim hk]; exact ha
  obtain ⟨rl, rg⟩ := renOs_get hren
  let others := (as.zip os).filter fun p => !((pickA 0 sel as).contains p.1)
  have hoth : ∀ p, p ∈ others ↔ p ∈ as.zip os ∧ p.1 ∉ pickA 0 sel as := fun p => by
    rw [List.mem_filter]
    simp
  let c' : Cx := { c with rest := c.rest ++ others }
  have ok' : Ok K f (d + 1) c' := { ok with cmp := fun e => by rw [hf] at e; cases e }
  let locs' := σ.locs.map fun p => (p.1, match p.2 with | some _ => (c.lm m p.1).map AV.val | none => none)
  have R' : At c' (pickA 0 sel as) (pickA default sel os) m ⟨objsS, locs', []⟩ s :=
    { gens := R.gens, os_ := R.os_, fr := R.fr
      news := fun p hp => by
        rcases List.mem_append.mp hp with hp | hp
        · exact R.news p (List.mem_append_left _ (pickA_zip lim R.len p hp))
        · rcases List.mem_append.mp hp with hp | hp
          · exact R.news p (List.mem_append_right _ hp)
          · exact R.news p (List.mem_append_left _ ((hoth p).mp hp).1)
      len := by simp [pickA]
      len' := by simp [pickA, rl]
      nodup := frame_nodup R.nodup hnd lim hoth List.filter_sublist R.len
      objs := fun k bo o h1 h2 => by
        obtain ⟨i, ao, e1, e2, e3⟩ := rg k bo h1
        rw [pickA_get limo e1] at h2
        exact (R.objs i ao o e2 h2).ren relA e3
      locs := frame_locs R.locs
      keys := by
        show (locs'.map (·.1)).Nodup
        rw [List.map_map]
        exact R.keys
      cells := fun _ _ hz => nomatch hz
      comp := R.comp }
  refine h f c' ⟨objsS, locs', []⟩ hf ok' rfl _ _ m s vs Q E R' (rvs.ren relA hargs) fun bs os' m' v s' rv R'' => ?_
  have lpk : (pickA 0 sel as).length = sel.length := by simp [pickA]
  have los' : os'.length = sel.length + bs.length := by rw [R''.len, List.length_append, lpk]
  have relE : RelE (back sel σ.objs.length) (pickA 0 sel as ++ bs) (as ++ bs) := by rw [la]; exact frame_rel lim
  refine hq bs (over sel os' 0 os ++ os'.drop sel.length) m' v s' (rv.emb relE) ?_
  have cov : ∀ a ∈ as, a ∈ pickA 0 sel as ∨ a ∈ others.map (·.1) := fun a ha => by
    by_cases hp : a ∈ pickA 0 sel as
    · exact .inl hp
    · obtain ⟨i, hi, rfl⟩ := List.getElem_of_mem ha
      have h2 : i < os.length := by rw [R.len]; exact hi
      exact .inr (List.mem_map.mpr ⟨(as[i], os[i]), (hoth _).mpr ⟨zip_mem (List.getElem?_eq_getElem hi) (List.getElem?_eq_getElem h2), hp⟩, rfl⟩)
  have nd2 := R''.nodup
  rw [show c'.rest.map (·.1) = c.rest.map (·.1) ++ others.map (·.1) from by show (c.rest ++ others).map (·.1) = _; rw [List.map_append], List.nodup_append] at nd2
  obtain ⟨n1, n2, n3⟩ := nd2
  have n4 := List.nodup_append.mp n1
  have n5 := List.nodup_append.mp R.nodup
  exact
    { gens := R''.gens, os_ := R''.os_, fr := R''.fr
      news := fun p hp => by
        rcases List.mem_append.mp hp with hp | hp
        · obtain ⟨a, o⟩ := p
          obtain ⟨i, hi⟩ := List.getElem?_of_mem hp
          rw [List.getElem?_zip_eq_some] at hi
          obtain ⟨h1, h2⟩ := hi
          by_cases hlt : i < as.length
          · rw [List.getElem?_append_left hlt] at h1
            rw [List.getElem?_append_left (by rw [over_len, R.len]; exact hlt)] at h2
            obtain ⟨o₀, e1, e2⟩ := over_get h2
            rw [Nat.zero_add] at e2
            rcases e2 with ⟨e2, rfl⟩ | ⟨k, e2, e3⟩
            · refine R''.news _ (List.mem_append_right _ (List.mem_append_right _ ((hoth _).mpr ⟨zip_mem h1 e1, fun hm => ?_⟩)))
              obtain ⟨j, hj, e⟩ := pickA_mem lim hm
              have := nodup_inj ndas h1 e
              subst this
              exact idx_none e2 hj
            · have hk := idx_of e2
              have hkl := (List.getElem?_eq_some_iff.mp hk).1
              rcases e3 with ⟨e3, _⟩ | e3
              · have := List.getElem?_eq_none_iff.mp e3
                omega
              · refine R''.news _ (List.mem_append_left _ (zip_mem (i := k) ?_ e3))
                rw [List.getElem?_append_left (by rw [lpk]; exact hkl), pickA_get lim hk]
                exact h1
          · have hge : as.length ≤ i := Nat.le_of_not_lt hlt
            rw [List.getElem?_append_right hge] at h1
            rw [List.getElem?_append_right (by rw [over_len, R.len]; exact hge), over_len, R.len, List.getElem?_drop] at h2
            refine R''.news _ (List.mem_append_left _ (zip_mem (i := sel.length + (i - as.length)) ?_ h2))
            rw [List.getElem?_append_right (by rw [lpk]; omega), lpk, Nat.add_sub_cancel_left]
            exact h1
        · exact R''.news p (List.mem_append_right _ (List.mem_append_left _ hp))
      len := by
        rw [List.length_append, List.length_append, over_len, List.length_drop, R.len, los', Nat.add_sub_cancel_left]
      len' := by
        have l3 := R''.len'
        rw [List.length_append, lpk] at l3
        show (over sel _ 0 σ.objs ++ _).length = _
        rw [List.length_append, List.length_append, over_len, List.length_map, List.length_drop, l3, la, Nat.add_sub_cancel_left]
      nodup := by
        rw [List.nodup_append]
        refine ⟨?_, n5.2.1, ?_⟩
        · rw [List.nodup_append]
          refine ⟨ndas, n4.2.1, fun a ha b hb e => ?_⟩
          subst e
          rcases cov a ha with h | h
          · exact n4.2.2 _ h _ hb rfl
          · exact n3 _ (List.mem_append_right _ hb) _ (List.mem_append_right _ h) rfl
        · intro a ha b hb
          rcases List.mem_append.mp ha with h | h
          · exact n5.2.2 _ h _ hb
          · exact n3 _ (List.mem_append_right _ h) _ (List.mem_append_left _ hb)
      objs := fun i ao o h1 h2 => by
        by_cases hlt : i < as.length
        · rw [List.getElem?_append_left (by rw [over_len, la]; exact hlt)] at h1
          rw [List.getElem?_append_left (by rw [over_len, R.len]; exact hlt)] at h2
          obtain ⟨a₀, e1, e2⟩ := over_get h1
          obtain ⟨o₀, e3, e4⟩ := over_get h2
          rw [Nat.zero_add] at e2 e4
          rcases e2 with ⟨e2, rfl⟩ | ⟨k, e2, e5⟩
          · rcases e4 with ⟨_, rfl⟩ | ⟨k', e4, _⟩
            · exact (R.objs i _ _ e1 e3).up
            · rw [e2] at e4; cases e4
          · have hk := idx_of e2
            have hkl := (List.getElem?_eq_some_iff.mp hk).1
            rcases e4 with ⟨e4, _⟩ | ⟨k', e4, e6⟩
            · rw [e2] at e4; cases e4
            · rw [e2] at e4; cases e4
              rcases e5 with ⟨e5, _⟩ | e5
              · have := List.getElem?_eq_none_iff.mp e5
                rw [List.length_map] at this
                omega
              · rcases e6 with ⟨e6, _⟩ | e6
                · have := List.getElem?_eq_none_iff.mp e6
                  omega
                · rw [List.getElem?_map] at e5
                  cases q : objsS'[k]? with
                  | none => rw [q] at e5; cases e5
                  | some b => rw [q] at e5; cases e5; exact (R''.objs k b o q e6).emb relE
        · have hge : as.length ≤ i := Nat.le_of_not_lt hlt
          rw [List.getElem?_append_right (by rw [over_len, la]; exact hge), over_len, la, List.getElem?_map, List.getElem?_drop] at h1
          rw [List.getElem?_append_right (by rw [over_len, R.len]; exact hge), over_len, R.len, List.getElem?_drop] at h2
          cases q : objsS'[sel.length + (i - as.length)]? with
          | none => rw [q] at h1; cases h1
          | some b =>
            rw [q] at h1
            cases h1
            have := (R''.objs _ b o q h2).emb relE
            rw [la] at this
            exact this
      locs := fun z av hz => by
        obtain ⟨v, h1, h2⟩ := R.locs z av hz
        obtain ⟨v', h3, h4⟩ := R''.locs z (.val v) (List.mem_map.mpr ⟨(z, some av), hz, by simp [h1]⟩)
        obtain rfl : v' = v := h4
        exact ⟨v', h3, h2.up⟩
      keys := R.keys
      cells := fun z i hz => let ⟨a, h1, h2⟩ := R.cells z i hz; ⟨a, h1, getElem?_app h2⟩
      comp := R''.comp }
theorem CallT.frame {fa : Addr} {args argsB : List AV} {objs objsS objsS' : List AO} {x : AV} {sel : List Nat} (h : CallT prog K d fa args objsS x objsS') (hnd : sel.Nodup) (hlim : ∀ i ∈ sel, i < objs.length) (hren : renOs sel objs sel = some objsS) (hargs : renVs sel argsB = some args) (hlen : sel.length ≤ objsS'.length) :
    CallT prog K d fa argsB objs (embV (back sel objs.length) x) (over sel (objsS'.map (embO (back sel objs.length))) 0 objs ++ (objsS'.drop sel.length).map (embO (back sel objs.length))) :=
  CallA.frame (mk := fun vs => ⟨vs, []⟩) h hnd hlim hren hargs hlen
/-- what is not picked is let go -/
theorem CallA.gc {mk : List Value → Args} {fa : Addr} {args : List AV} {objs objs' objs'' : List AO} {x x' : AV} {sel : List Nat} (h : CallA prog K mk d fa args objs x objs') (hnd : sel.Nodup) (h0 : ∀ i, i < objs.length → sel[i]? = some i) (hlim : ∀ i ∈ sel, i < objs'.length) (hren : renOs sel objs' sel = some objs'') (hx : renV sel x = some x') :
    CallA prog K mk d fa args objs x' objs'' := by
  intro f c σ hf ok hσ as os m s vs Q E R rvs hq
  subst hσ
  refine h f c σ hf ok rfl as os m s vs Q E R rvs fun bs os' m' v s' rv R' => ?_
  have la : σ.objs.length = as.length := R.len'
  have lo : objs'.length = (as ++ bs).length := R'.len'
  have lim : ∀ i ∈ sel, i < (as ++ bs).length := fun i hi => by rw [← lo]; exact hlim i hi
  have limo : ∀ i ∈ sel, i < os'.length := fun i hi => by rw [R'.len]; exact lim i hi
  have relA : RelA sel (as ++ bs) (pickA 0 sel (as ++ bs)) := fun k i hk a ha => by rw [pickA_get lim hk]; exact ha
  obtain ⟨rl, rg⟩ := renOs_get hren
  have hpre : ∀ i, i < as.length → (pickA 0 sel (as ++ bs))[i]? = as[i]? := fun i hi => by
    rw [pickA_get lim (h0 i (by rw [la]; exact hi)), List.getElem?_append_left hi]
  have hsplit : pickA 0 sel (as ++ bs) = as ++ (pickA 0 sel (as ++ bs)).drop as.length := by
    have : as = (pickA 0 sel (as ++ bs)).take as.length := by
      refine List.ext_getElem? fun i => ?_
      rw [List.getElem?_take]
      by_cases hi : i < as.length
      · rw [if_pos hi, hpre i hi]
      · rw [if_neg hi]; exact List.getElem?_eq_none_iff.mpr (Nat.le_of_not_lt hi)
    conv => rhs; rw [show as ++ (pickA 0 sel (as ++ bs)).drop as.length = (pickA 0 sel (as ++ bs)).take as.length ++ (pickA 0 sel (as ++ bs)).drop as.length from by rw [← this]]
    exact (List.take_append_drop ..).symm
  have nd := List.nodup_append.mp R'.nodup
  have RR : At c (pickA 0 sel (as ++ bs)) (pickA default sel os') m' { σ with objs := objs'' } s' :=
    { gens := R'.gens, os_ := R'.os_, fr := R'.fr
      news := fun p hp => by
        rcases List.mem_append.mp hp with hp | hp
        · exact R'.news p (List.mem_append_left _ (pickA_zip lim R'.len p hp))
        · exact R'.news p (List.mem_append_right _ hp)
      len := by simp [pickA]
      len' := by simp [pickA, rl]
      nodup := by
        rw [List.nodup_append]
        refine ⟨pickA_nodup nd.1 hnd lim, nd.2.1, fun a ha b hb => ?_⟩
        obtain ⟨i, _, e⟩ := pickA_mem lim ha
        exact nd.2.2 _ (List.mem_of_getElem? e) _ hb
      objs := fun k bo o h1 h2 => by
        obtain ⟨i, ao, e1, e2, e3⟩ := rg k bo h1
        rw [pickA_get limo e1] at h2
        exact (R'.objs i ao o e2 h2).ren relA e3
      locs := fun z av hz => by
        obtain ⟨v, h1, h2⟩ := R'.locs z av hz
        obtain ⟨v₀, h3, h4⟩ := R.locs z av hz
        refine ⟨v, h1, ?_⟩
        rw [hsplit]
        cases av with
        | obj i =>
          obtain ⟨a, e1, e2⟩ := h2
          obtain ⟨a', e3, _⟩ := h4
          have hi := (List.getElem?_eq_some_iff.mp e3).1
          rw [List.getElem?_append_left hi] at e1
          exact ⟨a, getElem?_app e1, e2⟩
        | _ => exact h2
      keys := R'.keys
      cells := fun z i hz => by
        obtain ⟨a, h1, h2⟩ := R.cells z i hz
        exact ⟨a, h1, by rw [hsplit]; exact getElem?_app h2⟩
      comp := R'.comp }
  have rv' := rv.ren relA hx
  rw [hsplit] at RR rv'
  exact hq _ _ _ _ _ rv' RR
theorem CallT.gc {fa : Addr} {args : List AV} {objs objs' objs'' : List AO} {x x' : AV} {sel : List Nat} (h : CallT prog K d fa args objs x objs') (hnd : sel.Nodup) (h0 : ∀ i, i < objs.length → sel[i]? = some i) (hlim : ∀ i ∈ sel, i < objs'.length) (hren : renOs sel objs' sel = some objs'') (hx : renV sel x = some x') :
    CallT prog K d fa args objs x' objs'' := CallA.gc (mk := fun vs => ⟨vs, []⟩) h hnd h0 hlim hren hx
theorem CallA.wk {mk : List Value → Args} {fa : Addr} {args : List AV} {objs objs' objs'' : List AO} {x : AV} (h : CallA prog K mk d fa args objs x objs') (w : WkOs objs' objs'') : CallA prog K mk d fa args objs x objs'' := by
  intro f c σ hf ok hσ as os m s vs Q E R rvs hq
  exact h f c σ hf ok hσ as os m s vs Q E R rvs fun bs os' m' v s' rv R' => hq _ _ _ _ _ rv (R'.weak w)
end
end Mine
/-! text M23 -/
open PySem PySem.W PyProof.Rows PySem.Spec PySem.Calls
set_option Elab.async false
set_option maxRecDepth 100000
namespace Mine
/-! garbage let go between the statements -/
noncomputable def renLs (sel : List Nat) : List (Str × Option AV) → Option (List (Str × Option AV))
  | [] => some []
  | (x, none) :: r => match renLs sel r with
    | some l => some ((x, none) :: l)
    | none => none
  | (x, some v) :: r => match renV sel v with
    | some w => match renLs sel r with
      | some l => some ((x, some w) :: l)
      | none => none
    | none => none
noncomputable def renCs (sel : List Nat) : List (Str × Nat) → Option (List (Str × Nat))
  | [] => some []
  | (x, i) :: r => match idx i sel with
    | some k => match renCs sel r with
      | some l => some ((x, k) :: l)
      | none => none
    | none => none
theorem renLs_of {sel : List Nat} : ∀ {l l' : List (Str × Option AV)}, renLs sel l = some l' → l'.map (·.1) = l.map (·.1) ∧ ∀ x w, (x, some w) ∈ l' → ∃ v, (x, some v) ∈ l ∧ renV sel v = some w
  | [], l', h => by cases h; exact ⟨rfl, fun _ _ h => nomatch h⟩
  | (x, none) :: r, l', h => by
    unfold renLs at h
    cases e : renLs sel r with
    | none => rw [e] at h; first | exact no_ h | cases h
    | some l =>
      rw [e] at h; first | exact no_ h | cases h
      obtain ⟨h1, h2⟩ := renLs_of e
      refine ⟨by simp [h1], fun y w hy => ?_⟩
      rcases List.mem_cons.mp hy with q | hy
      · cases q
      · obtain ⟨v, a, b⟩ := h2 y w hy; exact ⟨v, .tail _ a, b⟩
  | (x, some v) :: r, l', h => by
    unfold renLs at h
    cases q : renV sel v with
    | none => rw [q] at h; first | exact no_ h | cases h
    | some w =>
      rw [q] at h
      dsimp only at h
      cases e : renLs sel r with
      | none => rw [e] at h; first | exact no_ h | cases h
      | some l =>
        rw [e] at h; first | exact no_ h | cases h
        obtain ⟨h1, h2⟩ := renLs_of e
        refine ⟨by simp [h1], fun y w' hy => ?_⟩
        rcases List.mem_cons.mp hy with q' | hy
        · cases q'; exact ⟨v, .head _, q⟩
        · obtain ⟨v', a, b⟩ := h2 y w' hy; exact ⟨v', .tail _ a, b⟩
theorem renCs_of {sel : List Nat} : ∀ {l l' : List (Str × Nat)}, renCs sel l = some l' → ∀ x k, (x, k) ∈ l' → ∃ i, (x, i) ∈ l ∧ idx i sel = some k
  | [], l', h => by cases h; exact fun _ _ h => nomatch h
  | (x, i) :: r, l', h => by
    unfold renCs at h
    cases q : idx i sel with
    | none => rw [q] at h; first | exact no_ h | cases h
    | some k =>
      rw [q] at h
      dsimp only at h
      cases e : renCs sel r with
      | none => rw [e] at h; first | exact no_ h | cases h
      | some l =>
        rw [e] at h; first | exact no_ h | cases h
        intro y k' hy
        rcases List.mem_cons.mp hy with q' | hy
        · cases q'; exact ⟨i, .head _, q⟩
        · obtain ⟨j, a, b⟩ := renCs_of e y k' hy; exact ⟨j, .tail _ a, b⟩
noncomputable def renS (sel : List Nat) (σ : S) : Option S := match renOs sel σ.objs sel with
  | some o => match renLs sel σ.locs with
    | some l => match renCs sel σ.cells with
      | some c => some ⟨o, l, c⟩
      | none => none
    | none => none
  | none => none
theorem At.gc {c : Cx} {as bs : List Addr} {os : List Obj} {m : Str → Option Value} {σ' σ'' : S} {s : Shared} {sel : List Nat} (R : At c (as ++ bs) os m σ' s) (hnd : sel.Nodup) (h0 : ∀ i, i < as.length → sel[i]? = some i) (hlim : ∀ i ∈ sel, i < σ'.objs.length) (hren : renS sel σ' = some σ'') :
    ∃ bs' os'', At c (as ++ bs') os'' m σ'' s ∧ RelA sel (as ++ bs) (as ++ bs') := by
  unfold renS at hren
  cases q1 : renOs sel σ'.objs sel with
  | none => rw [q1] at hren; cases hren
  | some ob =>
  rw [q1] at hren
  dsimp only at hren
  cases q2 : renLs sel σ'.locs with
  | none => rw [q2] at hren; cases hren
  | some lo =>
  rw [q2] at hren
  dsimp only at hren
  cases q3 : renCs sel σ'.cells with
  | none => rw [q3] at hren; cases hren
  | some ce =>
  rw [q3] at hren
  cases hren
  have lo' : σ'.objs.length = (as ++ bs).length := R.len'
  have lim : ∀ i ∈ sel, i < (as ++ bs).length := fun i hi => by rw [← lo']; exact hlim i hi
  have limo : ∀ i ∈ sel, i < os.length := fun i hi => by rw [R.len]; exact lim i hi
  have relA : RelA sel (as ++ bs) (pickA 0 sel (as ++ bs)) := fun k i hk a ha => by rw [pickA_get lim hk]; exact ha
  obtain ⟨rl, rg⟩ := renOs_get q1
  have hpre : ∀ i, i < as.length → (pickA 0 sel (as ++ bs))[i]? = as[i]? := fun i hi => by
    rw [pickA_get lim (h0 i hi), List.getElem?_append_left hi]
  have hsplit : pickA 0 sel (as ++ bs) = as ++ (pickA 0 sel (as ++ bs)).drop as.length := by
    have : as = (pickA 0 sel (as ++ bs)).take as.length := by
      refine List.ext_getElem? fun i => ?_
      rw [List.getElem?_take]
      by_cases hi : i < as.length
      · rw [if_pos hi, hpre i hi]
      · rw [if_neg hi]; exact List.getElem?_eq_none_iff.mpr (Nat.le_of_not_lt hi)
    conv => rhs; rw [show as ++ (pickA 0 sel (as ++ bs)).drop as.length = (pickA 0 sel (as ++ bs)).take as.length ++ (pickA 0 sel (as ++ bs)).drop as.length from by rw [← this]]
    exact (List.take_append_drop ..).symm
  have nd := List.nodup_append.mp R.nodup
  have RR : At c (pickA 0 sel (as ++ bs)) (pickA default sel os) m ⟨ob, lo, ce⟩ s :=
    { gens := R.gens, os_ := R.os_, fr := R.fr
      news := fun p hp => by
        rcases List.mem_append.mp hp with hp | hp
        · exact R.news p (List.mem_append_left _ (pickA_zip lim R.len p hp))
        · exact R.news p (List.mem_append_right _ hp)
      len := by simp [pickA]
      len' := by simp [pickA, rl]
      nodup := by
        rw [List.nodup_append]
        refine ⟨pickA_nodup nd.1 hnd lim, nd.2.1, fun a ha b hb => ?_⟩
        obtain ⟨i, _, e⟩ := pickA_mem lim ha
        exact nd.2.2 _ (List.mem_of_getElem? e) _ hb
      objs := fun k bo o h1 h2 => by
        obtain ⟨i, ao, e1, e2, e3⟩ := rg k bo h1
        rw [pickA_get limo e1] at h2
        exact (R.objs i ao o e2 h2).ren relA e3
      locs := fun z av hz => by
        obtain ⟨v, h1, h2⟩ := (renLs_of q2).2 z av hz
        obtain ⟨u, h3, h4⟩ := R.locs z v h1
        exact ⟨u, h3, h4.ren relA h2⟩
      keys := by rw [(renLs_of q2).1]; exact R.keys
      cells := fun z k hz => by
        obtain ⟨i, h1, h2⟩ := renCs_of q3 z k hz
        obtain ⟨a, h3, h4⟩ := R.cells z i h1
        exact ⟨a, h3, relA _ _ (idx_of h2) a h4⟩
      comp := R.comp }
  rw [hsplit] at RR relA
  exact ⟨_, _, RR, relA⟩
noncomputable def renOut (sel : List Nat) : Out → Option Out
  | .ret v => match renV sel v with
    | some w => some (.ret w)
    | none => none
  | o => some o
/-- the old ones first -/
noncomputable def preB : Nat → List Nat → Nat → Bool
  | 0, _, _ => true
  | n + 1, j :: r, i => match Nat.beq j i with
    | true => preB n r (Nat.succ i)
    | false => false
  | _ + 1, [], _ => false
theorem preB_of : ∀ {n : Nat} {l : List Nat} {i : Nat}, preB n l i = true → ∀ k, k < n → l[k]? = some (i + k)
  | 0, _, _, _, k, h => absurd h (Nat.not_lt_zero k)
  | n + 1, [], _, h, _, _ => nomatch h
  | n + 1, j :: r, i, h, k, hk => by
    unfold preB at h
    cases e : Nat.beq j i with
    | false => rw [e] at h; first | exact no_ h | cases h
    | true =>
      rw [e] at h
      cases k with
      | zero => rw [Nat.eq_of_beq_eq_true e]; rfl
      | succ k =>
        rw [List.getElem?_cons_succ, preB_of h k (by omega)]
        congr 1
        omega
noncomputable def nodupB : List Nat → Bool
  | [] => true
  | a :: r => match idx a r with
    | none => nodupB r
    | some _ => false
theorem nodupB_of : ∀ {l : List Nat}, nodupB l = true → l.Nodup
  | [], _ => .nil
  | a :: r, h => by
    unfold nodupB at h
    cases e : idx a r with
    | some k => rw [e] at h; first | exact no_ h | cases h
    | none => rw [e] at h; exact List.nodup_cons.mpr ⟨idx_none e, nodupB_of h⟩
noncomputable def ltB (n : Nat) : List Nat → Bool
  | [] => true
  | a :: r => match Nat.blt a n with
    | true => ltB n r
    | false => false
theorem ltB_of {n : Nat} : ∀ {l : List Nat}, ltB n l = true → ∀ i ∈ l, i < n
  | [], _, _, h => nomatch h
  | a :: r, h, i, hi => by
    unfold ltB at h
    cases e : Nat.blt a n with
    | false => rw [e] at h; first | exact no_ h | cases h
    | true =>
      rw [e] at h
      rcases List.mem_cons.mp hi with rfl | hi
      · exact Nat.le_of_ble_eq_true e
      · exact ltB_of h i hi
noncomputable def selOk (n n' : Nat) (sel : List Nat) : Bool := match nodupB sel with
  | true => match preB n sel 0 with
    | true => ltB n' sel
    | false => false
  | false => false
theorem selOk_of {n n' : Nat} {sel : List Nat} (h : selOk n n' sel = true) : sel.Nodup ∧ (∀ i, i < n → sel[i]? = some i) ∧ ∀ i ∈ sel, i < n' := by
  unfold selOk at h
  cases e : nodupB sel with
  | false => rw [e] at h; first | exact no_ h | cases h
  | true =>
    rw [e] at h
    dsimp only at h
    cases e2 : preB n sel 0 with
    | false => rw [e2] at h; first | exact no_ h | cases h
    | true =>
      rw [e2] at h
      exact ⟨nodupB_of e, fun i hi => by have := preB_of e2 i hi; rwa [Nat.zero_add] at this, ltB_of h⟩
section
variable {prog : Program} {K : Params → Frag} {f : Fx} {d : Nat} {σ σ' σ'' : S} {sel : List Nat}
theorem EvS.gc {st : Stmt} {out out' : Out} (h : EvS prog K f d st σ out σ') (hs : selOk σ.objs.length σ'.objs.length sel = true) (hr : renS sel σ' = some σ'') (ho : renOut sel out = some out') : EvS prog K f d st σ out' σ'' := by
  intro c ok as os m s Q E R hq
  refine h c ok as os m s Q E R fun bs os' m' v s' rv R' => ?_
  obtain ⟨h1, h2, h3⟩ := selOk_of hs
  obtain ⟨bs', os'', R'', rel⟩ := R'.gc h1 (fun i hi => h2 i (by rw [R.len']; exact hi)) h3 hr
  refine hq bs' os'' m' v s' ?_ R''
  cases out <;> first | (cases ho; exact rv) | skip
  unfold renOut at ho
  split at ho
  · rename_i e
    cases e
    split at ho
    · rename_i e
      cases ho
      obtain ⟨u, h1, h2⟩ := rv
      exact ⟨u, h1, h2.ren rel e⟩
    · cases ho
  · rename_i e
    exact absurd rfl (e _)
theorem EvB.gc {st : List Stmt} {out out' : Out} (h : EvB prog K f d st σ out σ') (hs : selOk σ.objs.length σ'.objs.length sel = true) (hr : renS sel σ' = some σ'') (ho : renOut sel out = some out') : EvB prog K f d st σ out' σ'' := by
  intro c ok as os m s Q E R hq
  refine h c ok as os m s Q E R fun bs os' m' v s' rv R' => ?_
  obtain ⟨h1, h2, h3⟩ := selOk_of hs
  obtain ⟨bs', os'', R'', rel⟩ := R'.gc h1 (fun i hi => h2 i (by rw [R.len']; exact hi)) h3 hr
  refine hq bs' os'' m' v s' ?_ R''
  cases out <;> first | (cases ho; exact rv) | skip
  unfold renOut at ho
  split at ho
  · rename_i e
    cases e
    split at ho
    · rename_i e
      cases ho
      obtain ⟨u, h1, h2⟩ := rv
      exact ⟨u, h1, h2.ren rel e⟩
    · cases ho
  · rename_i e
    exact absurd rfl (e _)
theorem EvE.gc {e : Expr} {x x' : AV} (h : EvE prog K f d e σ x σ') (hs : selOk σ.objs.length σ'.objs.length sel = true) (hr : renS sel σ' = some σ'') (ho : renV sel x = some x') : EvE prog K f d e σ x' σ'' := by
  intro c ok as os m s Q E R hq
  refine h c ok as os m s Q E R fun bs os' m' v s' rv R' => ?_
  obtain ⟨h1, h2, h3⟩ := selOk_of hs
  obtain ⟨bs', os'', R'', rel⟩ := R'.gc h1 (fun i hi => h2 i (by rw [R.len']; exact hi)) h3 hr
  exact hq bs' os'' m' v s' (rv.ren rel ho) R''
theorem EvT.gc {e : Expr} {b : Bool} (h : EvT prog K f d e σ b σ') (hs : selOk σ.objs.length σ'.objs.length sel = true) (hr : renS sel σ' = some σ'') : EvT prog K f d e σ b σ'' := by
  intro c ok as os m s Q E R hq
  refine h c ok as os m s Q E R fun bs os' m' s' R' => ?_
  obtain ⟨h1, h2, h3⟩ := selOk_of hs
  obtain ⟨bs', os'', R'', rel⟩ := R'.gc h1 (fun i hi => h2 i (by rw [R.len']; exact hi)) h3 hr
  exact hq bs' os'' m' s' R''
/-- less may be told -/
inductive WkLs : List (Str × Option AV) → List (Str × Option AV) → Prop
  | nil : WkLs [] []
  | some {x v w l l'} : WkV v w → WkLs l l' → WkLs ((x, some v) :: l) ((x, some w) :: l')
  | none {x v l l'} : WkLs l l' → WkLs ((x, v) :: l) ((x, none) :: l')
theorem WkLs.keys {l l' : List (Str × Option AV)} (h : WkLs l l') : l'.map (·.1) = l.map (·.1) := by
  induction h with
  | nil => rfl
  | some _ _ ih => simp [ih]
  | none _ ih => simp [ih]
theorem WkLs.mem {l l' : List (Str × Option AV)} (h : WkLs l l') : ∀ x w, (x, Option.some w) ∈ l' → ∃ v, (x, Option.some v) ∈ l ∧ WkV v w := by
  induction h with
  | nil => exact fun _ _ h => nomatch h
  | some q _ ih =>
    intro x w hx
    rcases List.mem_cons.mp hx with e | hx
    · cases e; exact ⟨_, .head _, q⟩
    · obtain ⟨v, a, b⟩ := ih x w hx; exact ⟨v, .tail _ a, b⟩
  | none _ ih =>
    intro x w hx
    rcases List.mem_cons.mp hx with e | hx
    · cases e
    · obtain ⟨v, a, b⟩ := ih x w hx; exact ⟨v, .tail _ a, b⟩
theorem WkLs.refl : ∀ {l : List (Str × Option AV)}, WkLs l l
  | [] => .nil
  | (_, .some _) :: _ => .some .refl .refl
  | (_, .none) :: _ => .none .refl
theorem At.wkS {c : Cx} {as : List Addr} {os : List Obj} {m : Str → Option Value} {s : Shared} (R : At c as os m σ s) (w : WkOs σ.objs σ'.objs) (l : WkLs σ.locs σ'.locs) (hc : σ'.cells = σ.cells) : At c as os m σ' s :=
  { gens := R.gens, os_ := R.os_, fr := R.fr, news := R.news, len := R.len, nodup := R.nodup, comp := R.comp
    len' := by rw [← R.len']; exact w.length.symm
    objs := fun i ao o e1 e2 => by
      obtain ⟨a, h1, h2⟩ := w.get i ao e1
      exact h2 _ _ _ (R.objs i a o h1 e2)
    locs := fun x av hx => by
      obtain ⟨v, h1, h2⟩ := l.mem x av hx
      obtain ⟨u, h3, h4⟩ := R.locs x v h1
      exact ⟨u, h3, h2 _ _ h4⟩
    keys := by rw [l.keys]; exact R.keys
    cells := fun x i hx => R.cells x i (hc ▸ hx) }
theorem EvS.wk {st : Stmt} {out : Out} (h : EvS prog K f d st σ out σ') (w : WkOs σ'.objs σ''.objs) (l : WkLs σ'.locs σ''.locs) (hc : σ''.cells = σ'.cells) : EvS prog K f d st σ out σ'' := by
  intro c ok as os m s Q E R hq
  exact h c ok as os m s Q E R fun bs os' m' v s' rv R' => hq bs os' m' v s' rv (R'.wkS w l hc)
theorem EvB.wk {st : List Stmt} {out : Out} (h : EvB prog K f d st σ out σ') (w : WkOs σ'.objs σ''.objs) (l : WkLs σ'.locs σ''.locs) (hc : σ''.cells = σ'.cells) : EvB prog K f d st σ out σ'' := by
  intro c ok as os m s Q E R hq
  exact h c ok as os m s Q E R fun bs os' m' v s' rv R' => hq bs os' m' v s' rv (R'.wkS w l hc)
end
end Mine
/-! text M25 -/
open PySem PySem.W PyProof.Rows PySem.Spec PySem.Calls
set_option Elab.async false
set_option maxRecDepth 100000
namespace Mine
/-! loops whose turns let their garbage go -/
inductive TurnsG (prog : Program) (K : Params → Frag) (f : Fx) (d : Nat) (n₀ : Nat) (target : Expr) (body : List Stmt) (Kp : S → Prop) : List AV → S → Out → S → Prop
  | nil {τ : S} : Kp τ → TurnsG prog K f d n₀ target body Kp [] τ .next τ
  | next {x xs} {τ τ₁ τ₂ τ' : S} {o o' : Out} : Kp τ → EvAs prog K f d target x τ τ₁ → EvB prog K f d body τ₁ o τ₂ → (o = .next ∨ o = .cont) → TurnsG prog K f d n₀ target body Kp xs τ₂ o' τ' → TurnsG prog K f d n₀ target body Kp (x :: xs) τ o' τ'
  | brk {x xs} {τ τ₁ τ' : S} : Kp τ → EvAs prog K f d target x τ τ₁ → EvB prog K f d body τ₁ .brk τ' → TurnsG prog K f d n₀ target body Kp (x :: xs) τ .next τ'
  | ret {x xs v} {τ τ₁ τ' : S} : Kp τ → EvAs prog K f d target x τ τ₁ → EvB prog K f d body τ₁ (.ret v) τ' → TurnsG prog K f d n₀ target body Kp (x :: xs) τ (.ret v) τ'
  | nextG {x xs} {τ τ₁ τ₂ τ₃ τ' : S} {o o' : Out} {sel : List Nat} : Kp τ → EvAs prog K f d target x τ τ₁ → EvB prog K f d body τ₁ o τ₂ → (o = .next ∨ o = .cont) → selOk n₀ τ₂.objs.length sel = true → renS sel τ₂ = some τ₃ → TurnsG prog K f d n₀ target body Kp xs τ₃ o' τ' → TurnsG prog K f d n₀ target body Kp (x :: xs) τ o' τ'
section
variable {prog : Program} {K : Params → Frag} {f : Fx} {d : Nat} {σ σ₁ σ₂ σ₃ : S} {c : Cx} {as : List Addr} {os : List Obj} {m : Str → Option Value} {s : Shared} {I : Addr} {o o' : Obj}
theorem Turns.toG {n₀ : Nat} {target : Expr} {body : List Stmt} {Kp : S → Prop} {items : List AV} {out : Out} {σ σ' : S} (h : Turns prog K f d target body Kp items σ out σ') : TurnsG prog K f d n₀ target body Kp items σ out σ' := by
  induction h with
  | nil k => exact .nil k
  | next k a b e _ ih => exact .next k a b e ih
  | brk k a b => exact .brk k a b
  | ret k a b => exact .ret k a b
theorem body_run {target : Expr} {body : List Stmt} {x : AV} {v : Value} {τ τ₁ τ₂ : S} {o' : Out} (ok : Ok K f d c) (h1 : EvAs prog K f d target x τ τ₁) (h2 : EvB prog K f d body τ₁ o' τ₂) (R : At c as os m τ s) (rv : RV as x v) {Q : Flow → Shared → Prop} {E₁ E₂ : Value → Shared → Prop}
    (hq : ∀ bs os' m' v s', ROut (as ++ bs) o' v → At c (as ++ bs) os' m' τ₂ s' → Q v s') : wpAny (model prog c.w) c.A (assign target c.env v) (fun _ s₂ => wpAny (model prog c.w) c.A (execs body c.env) Q E₂ s₂) E₁ s := by
  refine h1 c ok as os m s v _ _ R rv fun bs₂ os₂ m₂ s₂ R₂ => ?_
  refine h2 c ok _ os₂ m₂ s₂ _ _ R₂ fun bs₃ os₃ m₃ u s₃ ru R₃ => ?_
  rw [List.append_assoc] at ru R₃
  exact hq (bs₂ ++ bs₃) os₃ m₃ u s₃ ru R₃
/-- what is true ahead of each turn -/
inductive GInv (prog : Program) (K : Params → Frag) (f : Fx) (d n₀ : Nat) (target : Expr) (body : List Stmt) (Kp : S → Prop) (items : List AV) (It : Nat → Obj → Prop) (c : Cx) (as : List Addr) (I : Addr) (out : Out) (σ' : S) (n : Nat) (s : Shared) : Prop
  | mk (k : Nat) (bs : List Addr) (os : List Obj) (m : Str → Option Value) (τ : S) (o : Obj) (hn : n = items.length - k) (hk : k ≤ items.length) (R : At (addR c I o) (as ++ bs) os m τ s) (hI : It k o) (T : TurnsG prog K f d n₀ target body Kp (items.drop k) τ out σ') : GInv prog K f d n₀ target body Kp items It c as I out σ' n s
theorem turns_runG {n₀ : Nat} {target : Expr} {body : List Stmt} {Kp : S → Prop} {items : List AV} {It : Nat → Obj → Prop} {out : Out} {σ σ' : S} (ok : Ok K f d c) (W : Src prog K f d target c as I Kp items It) (ht : TurnsG prog K f d n₀ target body Kp items σ out σ')
    (hn₀ : as.length = n₀) (R : At (addR c I o) as os m σ s) (hI : It 0 o) {RR : Result → Shared → Prop} (hq : ∀ bs os' m' v s', ROut (as ++ bs) out v → At c (as ++ bs) os' m' σ' s' → RR (.ok v) s') : codeAny (model prog c.w) c.A (.forLoop target (.ref I) body [] c.env) RR s := by
  refine codeAny_forLoop_any (GInv prog K f d n₀ target body Kp items It c as I out σ') ?_ (items.length - 0)
    (.mk 0 [] os m σ o rfl (Nat.zero_le _) (by rw [app_nil]; exact R) hI (by simpa using ht))
  rintro n s ⟨k, bs, os, m, τ, o, rfl, hk, R, hI, T⟩
  by_cases hlt : k < items.length
  · have hx : items[k]? = some items[k] := List.getElem?_eq_getElem hlt
    rw [List.drop_eq_getElem_cons hlt] at T
    have kp : Kp τ := by cases T <;> assumption
    refine W.next k _ bs os m τ s o _ _ R kp hI hx fun v s₁ o₁ rv R₁ hI₁ => ?_
    dsimp only
    refine W.go (k + 1) v o₁ s₁ _ _ R₁.mem.1 hI₁ ?_
    have lt : items.length - (k + 1) < items.length - k := by omega
    cases T with
    | next _ h1 h2 hn T' =>
      refine body_run (ok.addR (I := I) (o := o₁)) h1 h2 R₁ rv fun bs₃ os₃ m₃ u s₃ ru R₃ => ?_
      rw [List.append_assoc] at ru R₃
      rcases hn with rfl | rfl
      · obtain rfl : u = .next := ru
        exact ⟨items.length - (k + 1), lt, .mk (k + 1) _ os₃ m₃ _ o₁ rfl hlt R₃ hI₁ T'⟩
      · obtain rfl : u = .cont := ru
        exact ⟨items.length - (k + 1), lt, .mk (k + 1) _ os₃ m₃ _ o₁ rfl hlt R₃ hI₁ T'⟩
    | nextG _ h1 h2 hn hs hr T' =>
      refine body_run (ok.addR (I := I) (o := o₁)) h1 h2 R₁ rv fun bs₃ os₃ m₃ u s₃ ru R₃ => ?_
      rw [List.append_assoc] at ru R₃
      obtain ⟨q1, q2, q3⟩ := selOk_of hs
      obtain ⟨bs₄, os₄, R₄, _⟩ := R₃.gc q1 (fun i hi => q2 i (by rw [← hn₀]; exact hi)) q3 hr
      rcases hn with rfl | rfl
      · obtain rfl : u = .next := ru
        exact ⟨items.length - (k + 1), lt, .mk (k + 1) _ os₄ m₃ _ o₁ rfl hlt R₄ hI₁ T'⟩
      · obtain rfl : u = .cont := ru
        exact ⟨items.length - (k + 1), lt, .mk (k + 1) _ os₄ m₃ _ o₁ rfl hlt R₄ hI₁ T'⟩
    | brk _ h1 h2 =>
      refine body_run (ok.addR (I := I) (o := o₁)) h1 h2 R₁ rv fun bs₃ os₃ m₃ u s₃ ru R₃ => ?_
      rw [List.append_assoc] at R₃
      obtain rfl : u = .brk := ru
      exact hq _ _ _ _ _ rfl R₃.dropR'
    | ret _ h1 h2 =>
      refine body_run (ok.addR (I := I) (o := o₁)) h1 h2 R₁ rv fun bs₃ os₃ m₃ u s₃ ru R₃ => ?_
      rw [List.append_assoc] at ru R₃
      obtain ⟨w, rfl, rw⟩ := ru
      exact hq _ _ _ _ _ ⟨w, rfl, rw⟩ R₃.dropR'
  · obtain rfl : k = items.length := by omega
    rw [List.drop_length] at T
    cases T with
    | nil kp =>
      refine W.done bs os m _ s o _ _ R kp hI fun s' R' => ?_
      exact wpAny_execs_nil (hq _ _ _ _ _ rfl R')
theorem EvS.forLG {target iter : Expr} {body : List Stmt} {pos : Pos} {x : AV} {xs : List AV} {out : Out} {σ' : S} (h : EvE prog K f d iter σ x σ₁) (hs : SrcL K σ₁ x xs) (tg : plainTarget target = true) (ht : TurnsG prog K f d σ₁.objs.length target body (fun τ => SrcL K τ x xs) xs σ₁ out σ')
    (hi : ∀ env x, foldedSetIterable iter env x = pure x) : EvS prog K f d (.For target iter body [] pos) σ out σ' := by
  intro c ok as os m s Q E R hq
  refine wpAny_For (h c ok as os m s _ E R fun bs os₁ m₁ v s₁ rv R₁ => ?_) (hi _)
  obtain ⟨t, vs, rfl, hl, rs⟩ := hs.at ok R₁ rv
  refine wpAny_pyIter_list hl ?_
  refine turns_runG ok (src_list ok tg rv) ht R₁.len'.symm (R₁.pushR (Heap.get?_push_size _ rfl)) ⟨rfl, rfl⟩ fun bs₂ os₂ m₂ v s₂ rv R₂ => ?_
  rw [List.append_assoc] at rv R₂
  exact hq _ _ _ _ _ rv R₂
theorem EvS.forL {target iter : Expr} {body : List Stmt} {pos : Pos} {x : AV} {xs : List AV} {out : Out} {σ' : S} (h : EvE prog K f d iter σ x σ₁) (hs : SrcL K σ₁ x xs) (tg : plainTarget target = true) (ht : Turns prog K f d target body (fun τ => SrcL K τ x xs) xs σ₁ out σ')
    (hi : ∀ env x, foldedSetIterable iter env x = pure x) : EvS prog K f d (.For target iter body [] pos) σ out σ' := .forLG h hs tg ht.toG hi
theorem EvS.forRG {y : Str} {py : Pos} {iter : Expr} {body : List Stmt} {pos : Pos} {i n : Nat} {a b k : Int} {out : Out} {σ' : S} (h : EvE prog K f d iter σ (.obj i) σ₁) (ho : σ₁.objs[i]? = some (.rng a b k)) (hsm : Builtin.Range.small a b k = true) (hn : Builtin.Range.rangeSize a b k = (n : Int))
    (ht : TurnsG prog K f d σ₁.objs.length (.Name y py) body (fun _ => True) (rangeAV a k 0 n) σ₁ out σ')
    (hi : ∀ env x, foldedSetIterable iter env x = pure x) : EvS prog K f d (.For (.Name y py) iter body [] pos) σ out σ' := by
  intro c ok as os m s Q E R hq
  refine wpAny_For (h c ok as os m s _ E R fun bs os₁ m₁ v s₁ rv R₁ => ?_) (hi _)
  obtain ⟨q, o, g1, _, _, g2, t, u, v', rfl⟩ := R₁.obj ho
  obtain ⟨q', e, rfl⟩ := rv
  rw [g1] at e; cases e
  refine wpAny_pyIter_range g2 hsm ?_
  refine turns_runG ok (src_range ok) ht R₁.len'.symm (R₁.pushR (Heap.get?_push_size _ rfl)) (by unfold isRangeIter; rw [hn]; simp) fun bs₂ os₂ m₂ v s₂ rv R₂ => ?_
  rw [List.append_assoc] at rv R₂
  exact hq _ _ _ _ _ rv R₂
end
end Mine
/-! text M19 -/
open PySem PySem.W PyProof.Rows PySem.Spec PySem.Calls
set_option Elab.async false
set_option maxRecDepth 100000
namespace Mine
/-! calls with named arguments; new instances -/
section
variable {prog : Program} {K : Params → Frag} {f : Fx} {d : Nat} {σ σ₁ σ₂ σ₃ : S}
/-- the named arguments -/
inductive EvKw (prog : Program) (K : Params → Frag) (f : Fx) (d : Nat) : List Keyword → S → List Str → List AV → S → Prop
  | nil {τ : S} : EvKw prog K f d [] τ [] [] τ
  | cons {n e p ks ns x xs} {τ τ₁ τ₂ : S} : EvE prog K f d e τ x τ₁ → EvKw prog K f d ks τ₁ ns xs τ₂ → EvKw prog K f d (⟨some n, e, p⟩ :: ks) τ (n :: ns) (x :: xs) τ₂
theorem EvKw.names {kws : List Keyword} {ns : List Str} {xs : List AV} (h : EvKw prog K f d kws σ ns xs σ₁) (pos : Pos) (env : Env) : (backToKw pos (keywordEach kws env)).filterMap (·.1) = ns ∧ (backToKw pos (keywordEach kws env)).all (·.1.isSome) = true ∧ (backToKw pos (keywordEach kws env)).any (·.1.isNone) = false ∧ xs.length = ns.length := by
  induction h with
  | nil => exact ⟨rfl, rfl, rfl, rfl⟩
  | cons _ _ ih =>
    obtain ⟨h1, h2, h3, h4⟩ := ih
    exact ⟨congrArg (_ :: ·) h1, h2, h3, by simp [h4]⟩
theorem EvKw.run {kws : List Keyword} {ns : List Str} {xs : List AV} (h : EvKw prog K f d kws σ ns xs σ₁) (pos : Pos) {c : Cx} (ok : Ok K f d c) : DoesVs prog c (evalAll ((backToKw pos (keywordEach kws c.env)).map (·.2))) σ xs σ₁ := by
  induction h with
  | nil =>
    intro as os m s Q E R hq
    exact wpAny_pure (hq [] os m [] s .nil (by rw [app_nil]; exact R))
  | cons h1 _ ih =>
    intro as os m s Q E R hq
    refine wpAny_evalAll_cons (wpAny_bind (h1 c ok as os m s _ E R fun bs os₁ m₁ v s₁ rv R₁ => wpAny_bind (wpAny_standAt (wpAny_pure ?_))))
    refine ih _ os₁ m₁ s₁ _ E R₁ fun bs₂ os₂ m₂ vs s₂ rvs R₂ => ?_
    rw [List.append_assoc] at rvs R₂
    exact hq _ _ _ _ _ (.cons (by rw [← List.append_assoc]; exact rv.up) rvs) R₂
theorem Ok.under1 {c : Cx} {C : Addr} {vals : List Value} {kw : List (Str × Value)} (h : Ok K f (d + 1) c) : Ok K f d { c with A := c.A.under (.builtin "type.__call__" ⟨.ref C :: vals, kw⟩) } :=
  { h with
    depth := by have := h.depth; show c.A.depth + 1 + d < _; omega
    units := by have := h.units; show c.A.units + 1 + 8 * d + 8 < _; omega
    fn := fun e => h.fn e }
theorem EvE.make {fe : Expr} {kws : List Keyword} {pos : Pos} {C fI : Addr} {ns : List Str} {xs : List AV} {objs' : List AO} (hf : f.fn = true) (h1 : EvE prog K f d fe σ (.val (.ref C)) σ₁) (hk : EvKw prog K f d kws σ₁ ns xs σ₂)
    (hfe : ∀ env : Env, eval (.Call fe [] kws pos) env = (do callWith pos (← eval fe env) [] (backTo pos (starEach [] env)) (backToKw pos (keywordEach kws env))))
    (hkeep : ∀ P, keepIn (K P) (.ref C) = true) (hm : ∀ P, makesIn (K P) C = true) (hi : ∀ P, findIn (K P) (.ref C) "__init__" = some (some (.ref fI))) (hty : ∀ P, typeIn (K P) (.ref fI) = some (.type "function"))
    (hc : CallA prog K (fun vs => ⟨vs.take 1, ns.zip (vs.drop 1)⟩) d fI (.obj (σ₂.objs.length + 1) :: xs) (σ₂.objs ++ [.attrs [], .inst C σ₂.objs.length]) (.val .none) objs') (hd : d + 2 ≤ e) :
    EvE prog K f e (.Call fe [] kws pos) σ (.obj (σ₂.objs.length + 1)) { σ₂ with objs := objs' } := by
  intro c ok as os m s Q E R hq
  have okd : Ok K f d c := ok.weak (by omega)
  obtain ⟨n1, n2, n3, n4⟩ := hk.names pos c.env
  rw [hfe]
  refine wpAny_bind (h1 c okd as os m s _ E R fun bs os₁ m₁ v s₁ rv R₁ => ?_)
  obtain rfl : v = .ref C := rv
  refine callWith_KW0 (okd.kin.keeps R₁.fr.keep) (hkeep _) n2 (hk.run pos okd _ os₁ m₁ s₁ _ E R₁ fun bs₂ os₂ m₂ ks s₂ rks R₂ => ?_) (by rw [n3]; rfl)
  have X := okd.kin.keeps R₂.fr.keep
  refine ⟨X, wpAny_call ?_⟩
  rw [n1]
  refine make_K R₂.fr R₂.news X (hm _) (hi _) (hty _) fun x dx h' F' N' lt lx => ?_
  have R₃ := R₂.new (s' := { s₂ with heap := h' }) (a := dx) (o := emptyDict) (ao := .attrs []) rfl rfl F' (fun p hp => N' p (.tail _ hp)) (not_mem_of_lt R₂.len lt) ⟨[], 0, rfl, .nil, .nil⟩
  have ndx : x ∉ (as ++ bs ++ bs₂ ++ [dx]) ++ c.rest.map (·.1) := by
    refine not_mem_of_lt (os := os₂ ++ [emptyDict]) (by rw [List.length_append, List.length_append, R₂.len]; rfl) fun p hp => ?_
    rw [List.zip_append R₂.len.symm] at hp
    rcases List.mem_append.mp hp with hp | hp
    · rcases List.mem_append.mp hp with hp | hp
      · exact Nat.lt_trans (lt p (List.mem_append_left _ hp)) lx
      · rw [List.mem_singleton.mp hp]; exact lx
    · exact Nat.lt_trans (lt p (List.mem_append_right _ hp)) lx
  have gdx : (as ++ bs ++ bs₂ ++ [dx])[σ₂.objs.length]? = some dx := by rw [R₂.len', List.getElem?_append_right (Nat.le_refl _), Nat.sub_self]; rfl
  have R₄ := R₃.new (s' := { s₂ with heap := h' }) (a := x) (o := instObj C dx) (ao := .inst C σ₂.objs.length) rfl rfl F' (fun p hp => by
    rcases List.mem_cons.mp hp with rfl | hp
    · exact N' _ (.head _)
    · exact R₃.news p hp) ndx ⟨dx, getElem?_app gdx, rfl⟩
  have rx : RV (as ++ bs ++ bs₂ ++ [dx] ++ [x]) (.obj (σ₂.objs.length + 1)) (.ref x) := ⟨x, by rw [show σ₂.objs.length + 1 = (as ++ bs ++ bs₂ ++ [dx]).length from by rw [R₂.len', List.length_append (bs := [dx])]; rfl, List.getElem?_append_right (Nat.le_refl _), Nat.sub_self]; rfl, rfl⟩
  let c1 : Cx := { c with A := c.A.under (.builtin "type.__call__" ⟨.ref C :: ([] ++ []), ns.zip ks⟩) }
  have ok1 : Ok K f (d + 1) c1 := (ok.weak (e := d + 1 + 1) hd).under1
  have R₅ : At c1 (as ++ bs ++ bs₂ ++ [dx] ++ [x]) _ _ { σ₂ with objs := (σ₂.objs ++ [.attrs []]) ++ [.inst C σ₂.objs.length] } _ := { R₄ with }
  refine codeAny_mono (hc f c1 { σ₂ with objs := σ₂.objs ++ [.attrs [], .inst C σ₂.objs.length] } hf ok1 rfl _ _ m₂ _ (.ref x :: ks) (fun v s' => v = .none ∧ Q (.ref x) s') E (by rw [List.append_assoc σ₂.objs] at R₅; exact R₅) (.cons rx rks.up.up) fun bs₃ os₃ m₃ v s₃ rv R₆ => ?_) fun r s' z => ?_
  · refine ⟨rv, ?_⟩
    have R₇ : At c (as ++ bs ++ bs₂ ++ [dx] ++ [x] ++ bs₃) os₃ m₃ { σ₂ with objs := objs' } s₃ := { R₆ with }
    have rx' := rx.up (bs := bs₃)
    simp only [List.append_assoc] at R₇ rx'
    exact hq _ _ _ _ _ (by simpa only [List.append_assoc] using rx') (by simpa only [List.append_assoc] using R₇)
  · rcases r with e | (v | _ | _ | _) <;> first | exact z | exact z.elim | exact ⟨z.1, z.2⟩
end
end Mine
/-! text M20 -/
open PySem PySem.W PyProof.Rows PySem.Spec PySem.Calls
set_option Elab.async false
set_option maxRecDepth 100000
namespace Mine
section
variable {prog : Program} {K : Params → Frag} {f : Fx} {d : Nat} {σ σ₁ σ₂ σ₃ : S}
/-- a list is lengthened -/
theorem blt_extend {i j : Nat} {ao bo : AO} {xs ys : List Int} {objs : List AO} (hi : objs[i]? = some ao) (hj : objs[j]? = some bo) (hx : intsO ao = some xs) (hy : intsO bo = some ys) (hz : xs.length + ys.length ≤ 60000) :
    BltT prog K d (.builtin "list.extend") [.obj i, .obj j] objs (.val .none) (objs.set i (.il (xs ++ ys))) := by
  intro f c σ ok hσ as os m s vs Q E R rvs hq
  subst hσ
  cases rvs with
  | cons r rs =>
    cases rs with
    | cons r' rs =>
      cases rs
      obtain ⟨q, e1, rfl⟩ := r
      obtain ⟨q₂, e2, rfl⟩ := r'
      obtain ⟨q', o, g1, g1', gm, g2, r⟩ := R.obj hi
      obtain ⟨q₂', o₂, h1, h1', hm, h2, r₂⟩ := R.obj hj
      rw [e1] at g1; cases g1
      rw [e2] at h1; cases h1
      obtain ⟨us, n, rfl, hu⟩ := intsO_of hx r
      obtain ⟨ws, n₂, rfl, hw⟩ := intsO_of hy r₂
      have lu : us.size = xs.length := by rw [← hu.length, Array.length_toList]
      have lw : ws.size = ys.length := by rw [← hw.length, Array.length_toList]
      obtain ⟨pre, post, q1, q2, d1, d2⟩ := (upd_zip (rest := c.rest) (listOf us n) e1 g1' R.nodup).split
      have N := R.news
      rw [q1] at N
      refine extend_in_ints (ys := us.toList) (n := n) (its2 := ws) (n2 := n₂) R.fr (by simpa using N) d1 d2 h2 hu hw (fun h' n' F' N' hi' => ?_) (by rw [Array.length_toList, lu, lw]; exact Nat.le_trans hz (by decide +kernel))
      have N'' := news_upd (upd_zip (rest := c.rest) (listOf (us.toList ++ ws.toList).toArray n') e1 g1' R.nodup) q1 (by simpa using N')
      refine hq [] (os.set i (listOf (us.toList ++ ws.toList).toArray n')) m _ _ rfl ?_
      rw [app_nil]
      exact R.upd (s' := { s with heap := h' }) rfl rfl F' N'' ⟨_, _, rfl, by simpa using hi'⟩
end
/-! what the machine holds, by computing -/
noncomputable def listI (σ : S) (x : AV) : Option (Nat × AO × List Int) := match x with
  | .obj i => opt (nth σ.objs i) fun ao => opt (intsO ao) fun xs => some (i, ao, xs)
  | _ => none
theorem listI_of {σ : S} {x : AV} {i : Nat} {ao : AO} {xs : List Int} (h : listI σ x = some (i, ao, xs)) : x = .obj i ∧ σ.objs[i]? = some ao ∧ intsO ao = some xs := by
  cases x <;> first | exact no_ h | (cases h; done) | skip
  replace h := opt_some h
  obtain ⟨ao', h1, h⟩ := h
  replace h := opt_some h
  obtain ⟨xs', h2, h⟩ := h
  cases h
  rw [nth_eq] at h1
  exact ⟨rfl, h1, h2⟩
noncomputable def bltLen (x : AV) (objs : List AO) : Option (AV × List AO × List Prop) := opt (listI ⟨objs, [], []⟩ x) fun p => some (.int p.2.2.length, objs, [p.2.2.length < 2 ^ 62])
noncomputable def bltSum (x : AV) (objs : List AO) : Option (AV × List AO × List Prop) := opt (listI ⟨objs, [], []⟩ x) fun p => some (.int p.2.2.sum, objs, [])
noncomputable def isStrA : AV → Bool
  | .str _ => true
  | _ => false
noncomputable def bltIs (x : AV) (b : Blt) (objs : List AO) : Option (AV × List AO × List Prop) := match b with
  | .bool => tst (isInt x) (some (.cb false, objs, []))
  | .str => match isStrA x with
    | true => some (.cb true, objs, [])
    | false => tst (isInt x) (some (.cb false, objs, []))
  | _ => none
noncomputable def bltIsD (x y : AV) (objs : List AO) : Option (AV × List AO × List Prop) := match y with
  | .blt b => bltIs x b objs
  | _ => none
noncomputable def bltR1 (y : AV) (objs : List AO) : Option (AV × List AO × List Prop) := opt y.i? fun b => some (.obj objs.length, objs ++ [.rng 0 b 1], [])
noncomputable def bltR2 (x y : AV) (objs : List AO) : Option (AV × List AO × List Prop) := opt x.i? fun a => opt y.i? fun b => some (.obj objs.length, objs ++ [.rng a b 1], [])
noncomputable def bltR3 (x y z : AV) (objs : List AO) : Option (AV × List AO × List Prop) := opt x.i? fun a => opt y.i? fun b => opt z.i? fun k => some (.obj objs.length, objs ++ [.rng a b k], [k ≠ 0, Builtin.divisionGoesByPylong (b - a) k = false])
noncomputable def args1 (xs : List AV) (k : AV → Option (AV × List AO × List Prop)) : Option (AV × List AO × List Prop) := match xs with
  | [x] => k x
  | _ => none
noncomputable def args2 (xs : List AV) (k : AV → AV → Option (AV × List AO × List Prop)) : Option (AV × List AO × List Prop) := match xs with
  | [x, y] => k x y
  | _ => none
noncomputable def argsR (xs : List AV) (objs : List AO) : Option (AV × List AO × List Prop) := match xs with
  | [y] => bltR1 y objs
  | [x, y] => bltR2 x y objs
  | [x, y, z] => bltR3 x y z objs
  | _ => none
theorem args1_of {xs : List AV} {k : AV → Option (AV × List AO × List Prop)} {v : AV × List AO × List Prop} (h : args1 xs k = some v) : ∃ x, xs = [x] ∧ k x = some v := by
  rcases xs with _ | ⟨x, _ | ⟨y, xs⟩⟩
  · exact no_ h
  · exact ⟨x, rfl, h⟩
  · exact no_ h
theorem args2_of {xs : List AV} {k : AV → AV → Option (AV × List AO × List Prop)} {v : AV × List AO × List Prop} (h : args2 xs k = some v) : ∃ x y, xs = [x, y] ∧ k x y = some v := by
  rcases xs with _ | ⟨x, _ | ⟨y, _ | ⟨z, xs⟩⟩⟩
  · exact no_ h
  · exact no_ h
  · exact ⟨x, y, rfl, h⟩
  · exact no_ h
noncomputable def bltV (b : Blt) (xs : List AV) (objs : List AO) : Option (AV × List AO × List Prop) := match b with
  | .len => args1 xs fun x => bltLen x objs
  | .sum => args1 xs fun x => bltSum x objs
  | .isinstance => args2 xs fun x y => bltIsD x y objs
  | .range => argsR xs objs
  | _ => none
section
variable {prog : Program} {K : Params → Frag} {d : Nat} {objs objs' : List AO} {x : AV} {g : List Prop}
theorem finB {v : Value} {xs : List AV} {o ob ob' : List AO} {y z : AV} {g g' : List Prop} (h : some (y, ob, g) = some (z, ob', g')) (hg : ∀ p ∈ g', p) (B : (∀ p ∈ g, p) → BltT prog K d v xs o y ob) : BltT prog K d v xs o z ob' := by cases h; exact B hg
theorem bltLen_of {y : AV} (h : bltLen y objs = some (x, objs', g)) (hg : ∀ p ∈ g, p) : BltT prog K d (.builtin "len") [y] objs x objs' := by
  obtain ⟨⟨i, ao, ys⟩, h1, h'⟩ := opt_some h
  obtain ⟨rfl, h2, h3⟩ := listI_of h1
  exact finB h' hg fun hg => blt_len h2 h3 (hg _ (.head _))
theorem bltSum_of {y : AV} (h : bltSum y objs = some (x, objs', g)) (hg : ∀ p ∈ g, p) : BltT prog K d (.builtin "sum") [y] objs x objs' := by
  obtain ⟨⟨i, ao, ys⟩, h1, h'⟩ := opt_some h
  obtain ⟨rfl, h2, h3⟩ := listI_of h1
  exact finB h' hg fun _ => blt_sum h2 h3
theorem bltIsI_of {y : AV} {b : Blt} (hb : b = .bool ∨ b = .str) (h : tst (isInt y) (some (.cb false, objs, [])) = some (x, objs', g)) (hg : ∀ p ∈ g, p) : BltT prog K d (.builtin "isinstance") [y, .blt b] objs x objs' := by
  obtain ⟨h1, h⟩ := tst_some h
  refine finB h hg fun _ => ?_
  rcases hb with rfl | rfl
  · exact blt_isiIB h1
  · exact blt_isiIS h1
theorem bltIs_of {y : AV} {b : Blt} (h : bltIs y b objs = some (x, objs', g)) (hg : ∀ p ∈ g, p) : BltT prog K d (.builtin "isinstance") [y, .blt b] objs x objs' := by
  cases b with
  | bool => exact bltIsI_of (.inl rfl) h hg
  | str =>
    unfold bltIs at h
    cases e : isStrA y with
    | true =>
      rw [e] at h
      cases y with
      | str => exact finB h hg fun _ => blt_isiSS
      | _ => cases e
    | false =>
      rw [e] at h
      exact bltIsI_of (.inr rfl) h hg
  | _ => exact no_ h
theorem bltR1_of {u : AV} (h : bltR1 u objs = some (x, objs', g)) (hg : ∀ p ∈ g, p) : BltT prog K d (.type "range") [u] objs x objs' := by
  obtain ⟨b, h1, h⟩ := opt_some h
  exact finB h hg fun _ => blt_range1 h1
theorem bltR2_of {u v : AV} (h : bltR2 u v objs = some (x, objs', g)) (hg : ∀ p ∈ g, p) : BltT prog K d (.type "range") [u, v] objs x objs' := by
  obtain ⟨a, h1, h⟩ := opt_some h
  obtain ⟨b, h2, h⟩ := opt_some h
  exact finB h hg fun _ => blt_range2 h1 h2
theorem bltR3_of {u v w : AV} (h : bltR3 u v w objs = some (x, objs', g)) (hg : ∀ p ∈ g, p) : BltT prog K d (.type "range") [u, v, w] objs x objs' := by
  obtain ⟨a, h1, h⟩ := opt_some h
  obtain ⟨b, h2, h⟩ := opt_some h
  obtain ⟨k, h3, h⟩ := opt_some h
  exact finB h hg fun hg => blt_range3 h1 h2 h3 (hg _ (.head _)) (hg _ (.tail _ (.head _)))
theorem argsR_of {xs : List AV} (h : argsR xs objs = some (x, objs', g)) (hg : ∀ p ∈ g, p) : BltT prog K d (.type "range") xs objs x objs' := by
  rcases xs with _ | ⟨u, _ | ⟨v, _ | ⟨w, _ | ⟨t, xs⟩⟩⟩⟩
  · exact no_ h
  · exact bltR1_of h hg
  · exact bltR2_of h hg
  · exact bltR3_of h hg
  · exact no_ h
end
theorem bltV_of {prog : Program} {K : Params → Frag} {d : Nat} {b : Blt} {xs : List AV} {objs objs' : List AO} {x : AV} {g : List Prop} (h : bltV b xs objs = some (x, objs', g)) (hg : ∀ p ∈ g, p) : BltT prog K d b.value xs objs x objs' := by
  cases b with
  | len =>
    obtain ⟨y, rfl, h⟩ := args1_of h
    exact bltLen_of h hg
  | sum =>
    obtain ⟨y, rfl, h⟩ := args1_of h
    exact bltSum_of h hg
  | isinstance =>
    obtain ⟨y, w, rfl, h⟩ := args2_of h
    cases w with
    | blt b => exact bltIs_of h hg
    | _ => exact no_ h
  | range => exact argsR_of h hg
  | _ => exact no_ h
noncomputable def sizeO : AO → Option Nat
  | .list xs => some xs.length
  | .il xs => some xs.length
  | _ => none
theorem sizeO_of {ao : AO} {n : Nat} (h : sizeO ao = some n) (hn : n ≤ 60000) : ∀ P as o, RO P as ao o → ∃ vs k, o = listOf vs k ∧ vs.size ≤ 60000 := by
  intro P as o r
  cases ao <;> first | exact no_ h | (cases h; done) | skip
  · first | exact no_ h | cases h
    obtain ⟨vs, k, e, rr⟩ := r
    exact ⟨vs, k, e, by rw [← Array.length_toList, rr.length]; exact hn⟩
  · first | exact no_ h | cases h
    obtain ⟨vs, k, e, rr⟩ := r
    exact ⟨vs, k, e, by rw [← Array.length_toList, rr.length]; exact hn⟩
inductive Lm where
  | append | extend
noncomputable def lmOf (name : Str) : Option Lm := match Fast.sEq name (Str.ofString "append") with
  | true => some .append
  | false => match Fast.sEq name (Str.ofString "extend") with
    | true => some .extend
    | false => none
noncomputable def Lm.id : Lm → String
  | .append => "list.append"
  | .extend => "list.extend"
noncomputable def Lm.name : Lm → Str
  | .append => Str.ofString "append"
  | .extend => Str.ofString "extend"
theorem lmOf_of {name : Str} {l : Lm} (h : lmOf name = some l) : name = l.name := by
  unfold lmOf at h
  cases e : Fast.sEq name (Str.ofString "append") with
  | true => rw [e] at h; cases h; exact Fast.sEq_iff.mp e
  | false =>
    rw [e] at h
    dsimp only at h
    cases e2 : Fast.sEq name (Str.ofString "extend") with
    | true => rw [e2] at h; cases h; exact Fast.sEq_iff.mp e2
    | false => rw [e2] at h; first | exact no_ h | cases h
noncomputable def lmA (i : Nat) (x : AV) (objs : List AO) : Option (List AO × List Prop) := opt (nth objs i) fun ao => opt (sizeO ao) fun n => opt (appO ao x) fun bo => some (upd objs i bo, [n ≤ 60000])
noncomputable def lmE (i : Nat) (y : AV) (objs : List AO) : Option (List AO × List Prop) := opt (listI ⟨objs, [], []⟩ (.obj i)) fun p => opt (listI ⟨objs, [], []⟩ y) fun q => some (upd objs i (.il (p.2.2 ++ q.2.2)), [p.2.2.length + q.2.2.length ≤ 60000])
noncomputable def lmV (l : Lm) (i : Nat) (xs : List AV) (objs : List AO) : Option (List AO × List Prop) := match xs with
  | [x] => match l with
    | .append => lmA i x objs
    | .extend => lmE i x objs
  | _ => none
theorem fin2g {prog : Program} {K : Params → Frag} {d : Nat} {v : Value} {xs : List AV} {y : AV} {o ob ob' : List AO} {g g' : List Prop} (h : some (ob, g) = some (ob', g')) (hg : ∀ p ∈ g', p) (B : (∀ p ∈ g, p) → BltT prog K d v xs o y ob) : BltT prog K d v xs o y ob' := by cases h; exact B hg
theorem lmV_of {prog : Program} {K : Params → Frag} {d : Nat} {l : Lm} {i : Nat} {xs : List AV} {objs objs' : List AO} {g : List Prop} (h : lmV l i xs objs = some (objs', g)) (hg : ∀ p ∈ g, p) : BltT prog K d (.builtin l.id) (.obj i :: xs) objs (.val .none) objs' := by
  rcases xs with _ | ⟨x, _ | ⟨y, xs⟩⟩
  · exact no_ h
  · cases l with
    | append =>
      have h : lmA i x objs = some (objs', g) := h
      obtain ⟨ao, h1, h⟩ := opt_some h
      obtain ⟨n, h2, h⟩ := opt_some h
      obtain ⟨bo, h3, h⟩ := opt_some h
      rw [nth_eq] at h1
      refine fin2g h hg fun hg => ?_
      rw [upd_eq]
      exact blt_append h1 h3 (sizeO_of h2 (hg _ (.head _)))
    | extend =>
      have h : lmE i x objs = some (objs', g) := h
      obtain ⟨⟨i', ao, ys⟩, h1, h⟩ := opt_some h
      obtain ⟨⟨j, bo, zs⟩, h2, h⟩ := opt_some h
      obtain ⟨e1, e2, e3⟩ := listI_of h1
      obtain ⟨e4, e5, e6⟩ := listI_of h2
      cases e1
      refine fin2g h hg fun hg => ?_
      rw [upd_eq, e4]
      exact blt_extend e2 e5 e3 e6 (hg _ (.head _))
  · exact no_ h
theorem lm_facts (l : Lm) : Slot "list" l.name l.id ∧ typeOf (.builtin l.id) = pure (.type "method_descriptor") := by
  cases l
  · exact ⟨slot_list_append, type_list_append⟩
  · exact ⟨PySem.F.slot_list_extend, by show builtinType _ = _; rw [builtinType_eq_fast]; kernel_rfl⟩
/-! tables of rows and tuples -/
structure Tab2 where
  T : Tab
  rows : List (Addr × List AV)
  tups : List (Addr × List AV)
structure Tab2Ok (K : Params → Frag) (U : Tab2) : Prop where
  T : TabOk K U.T
  rows : ∀ p ∈ U.rows, ∀ P, ∃ vs : List Value, (K P).lookup p.1 = some (⟨.type "list", none, .seq vs.toArray, #[]⟩ : Obj) ∧ RVs [] p.2 vs
  tups : ∀ p ∈ U.tups, ∀ P, ∃ vs : List Value, (K P).lookup p.1 = some (⟨.type "tuple", none, .seq vs.toArray, #[]⟩ : Obj) ∧ RVs [] p.2 vs
section
variable {prog : Program} {K : Params → Frag} {U : Tab2} {n : Nat} {r : Ev} {f : Fx} {σ : S} {o : Orc}
/-! comparisons -/
noncomputable def cmpL (n : Nat) (op : CmpOp) (x y : AV) (σ : S) : Option AV := match cmpV op x y with
  | some z => some z
  | none => match op with
    | .In => match y with
      | .obj j => opt (nth σ.objs j) fun bo => match bo with
        | .dict es => opt x.s? fun k => some (.cb (look k es).isSome)
        | bo => opt (intsO bo) fun ys => opt x.i? fun k => some (.bool (ys.any (· == k)))
      | _ => none
    | .Eq => tst (Nat.ble 8 n) (opt (listI σ x) fun p => opt (listI σ y) fun q => some (.bool (decide (p.2.2 = q.2.2))))
    | .NotEq => tst (Nat.ble 8 n) (opt (listI σ x) fun p => opt (listI σ y) fun q => some (.bool (!decide (p.2.2 = q.2.2))))
    | _ => none
theorem cmpL_of (HT : TabOk K U.T) {op : CmpOp} {x y z : AV} (h : cmpL n op x y σ = some z) : CmpAt prog K f n op σ x y z := by
  unfold cmpL at h
  cases e : cmpV op x y with
  | some w => rw [e] at h; cases h; exact .plain e
  | none =>
    rw [e] at h
    dsimp only at h
    split at h
    · split at h
      · replace h := opt_some h
        obtain ⟨bo, h1, h⟩ := h
        rw [nth_eq] at h1
        split at h
        · replace h := opt_some h
          obtain ⟨k, h2, h⟩ := h
          obtain rfl := Option.some.inj h
          exact .inD HT.one h2 rfl h1
        · replace h := opt_some h
          obtain ⟨ys, h2, h⟩ := h
          replace h := opt_some h
          obtain ⟨k, h3, h⟩ := h
          obtain rfl := Option.some.inj h
          exact .inL h3 rfl h1 h2
      · first | exact no_ h | cases h
    · replace h := tst_some h
      obtain ⟨hn, h⟩ := h
      replace h := opt_some h
      obtain ⟨⟨i, ao, xs⟩, h1, h⟩ := h
      replace h := opt_some h
      obtain ⟨⟨j, bo, ys⟩, h2, h⟩ := h
      obtain rfl := Option.some.inj h
      obtain ⟨a1, a2, a3⟩ := listI_of h1
      obtain ⟨b1, b2, b3⟩ := listI_of h2
      exact .eqL a1 b1 a2 b2 a3 b3 (Nat.le_of_ble_eq_true hn)
    · replace h := tst_some h
      obtain ⟨hn, h⟩ := h
      replace h := opt_some h
      obtain ⟨⟨i, ao, xs⟩, h1, h⟩ := h
      replace h := opt_some h
      obtain ⟨⟨j, bo, ys⟩, h2, h⟩ := h
      obtain rfl := Option.some.inj h
      obtain ⟨a1, a2, a3⟩ := listI_of h1
      obtain ⟨b1, b2, b3⟩ := listI_of h2
      exact .neL a1 b1 a2 b2 a3 b3 (Nat.le_of_ble_eq_true hn)
    · first | exact no_ h | cases h
noncomputable def lawCmp (n : Nat) (r : Ev) (f : Fx) (op : CmpOp) (l e : Expr) (σ : S) (o : Orc) : R AV := tst (!behindInMarks op e) (bnd (r.e f l σ o) fun x σ o => bnd (r.e f e σ o) fun y σ o => opt (cmpL n op x y σ) fun z => ret z σ o)
theorem lawCmp_ok (HT : TabOk K U.T) (H : Sound prog K n r) {op : CmpOp} {l e : Expr} {v : AV} {σ' : S} {o' : Orc} {g : List Prop} (h : lawCmp (n + 1) r f op l e σ o = some (v, σ', o', g)) (hg : ∀ p ∈ g, p) :
    ∃ x y σ₁, EvE prog K f (n + 1) l σ x σ₁ ∧ EvE prog K f (n + 1) e σ₁ y σ' ∧ behindInMarks op e = false ∧ CmpAt prog K f (n + 1) op σ' x y v := by
  replace h := tst_some h
  obtain ⟨hb, h⟩ := h
  replace h := bnd_some h
  obtain ⟨x, σ₁, o₁, g1, g2, h1, h, k1⟩ := h
  replace h := bnd_some h
  obtain ⟨y, σ₂, o₂, g3, g4, h2, h, k2⟩ := h
  replace h := opt_some h
  obtain ⟨z, h3, h⟩ := h
  cases h
  have k1 := k1 hg
  have k2 := k2 k1.2
  exact ⟨x, y, σ₁, H.e' h1 k1.1, H.e' h2 k2.1, by simpa using hb, cmpL_of HT h3⟩
/-! + and * -/
noncomputable def arithL (op : Operator) (xs : List Int) (y : AV) (σ : S) (o : Orc) : R AV := match op with
  | .Add => opt (listI σ y) fun q => some (.obj σ.objs.length, { σ with objs := σ.objs ++ [.il (xs ++ q.2.2)] }, o, [xs.length + q.2.2.length ≤ 60000])
  | .Mult => opt y.i? fun k => some (.obj σ.objs.length, { σ with objs := σ.objs ++ [.il (Mine.mulL xs k)] }, o, [k < 60000, 0 ≤ k, xs.length ≤ 64])
  | _ => none
noncomputable def arithV (op : Operator) (x y : AV) (σ : S) (o : Orc) : R AV := opt (opV op x y) fun p => some (p.1, σ, o, p.2)
noncomputable def arithD (op : Operator) (x y : AV) (σ : S) (o : Orc) : R AV := match listI σ x with
  | some p => arithL op p.2.2 y σ o
  | none => arithV op x y σ o
noncomputable def arith (r : Ev) (f : Fx) (op : Operator) (l e : Expr) (σ : S) (o : Orc) : R AV := bnd (r.e f l σ o) fun x σ o => bnd (r.e f e σ o) fun y σ o => arithD op x y σ o
theorem arithL_ok {op : Operator} {l e : Expr} {pos : Pos} {i : Nat} {ao : AO} {xs : List Int} {y v : AV} {σ₁ σ₂ σ' : S} {o' : Orc} {g : List Prop} (E1 : EvE prog K f n l σ (.obj i) σ₁) (E2 : EvE prog K f n e σ₁ y σ₂) (a2 : σ₂.objs[i]? = some ao) (a3 : intsO ao = some xs) (h : arithL op xs y σ₂ o = some (v, σ', o', g)) (hg : ∀ p ∈ g, p) : EvE prog K f n (.BinOp l op e pos) σ v σ' := by
  cases op with
  | Add =>
    obtain ⟨⟨j, bo, ys⟩, h3, h'⟩ := opt_some h
    obtain ⟨rfl, b2, b3⟩ := listI_of h3
    exact finEg h' hg fun hg => .addL E1 E2 a2 b2 a3 b3 (hg _ (.head _))
  | Mult =>
    obtain ⟨k, h3, h'⟩ := opt_some h
    exact finEg h' hg fun hg => .mulL E1 E2 a2 a3 h3 (hg _ (.head _)) (hg _ (.tail _ (.head _))) (hg _ (.tail _ (.tail _ (.head _))))
  | _ => exact no_ h
theorem arithD_ok {op : Operator} {l e : Expr} {pos : Pos} {x y v : AV} {σ₁ σ₂ σ' : S} {o' : Orc} {g : List Prop} (E1 : EvE prog K f n l σ x σ₁) (E2 : EvE prog K f n e σ₁ y σ₂) (h : arithD op x y σ₂ o = some (v, σ', o', g)) (hg : ∀ p ∈ g, p) : EvE prog K f n (.BinOp l op e pos) σ v σ' := by
  unfold arithD at h
  cases q : listI σ₂ x with
  | none =>
    rw [q] at h
    obtain ⟨⟨z, gs⟩, h3, h'⟩ := opt_some h
    exact finEg h' hg fun hg => .bin E1 E2 h3 hg
  | some p =>
    obtain ⟨i, ao, xs⟩ := p
    rw [q] at h
    obtain ⟨rfl, a2, a3⟩ := listI_of q
    exact arithL_ok E1 E2 a2 a3 h hg
theorem arith_ok (H : Sound prog K n r) {op : Operator} {l e : Expr} {pos : Pos} {v : AV} {σ' : S} {o' : Orc} {g : List Prop} (h : arith r f op l e σ o = some (v, σ', o', g)) (hg : ∀ p ∈ g, p) : EvE prog K f (n + 1) (.BinOp l op e pos) σ v σ' := by
  obtain ⟨x, σ₁, o₁, g1, g2, h1, h, k1⟩ := bnd_some h
  obtain ⟨y, σ₂, o₂, g3, g4, h2, h, k2⟩ := bnd_some h
  have k1 := k1 hg
  have k2 := k2 k1.2
  exact arithD_ok (H.e' h1 k1.1) (H.e' h2 k2.1) h k2.2
/-! slices, items -/
noncomputable def lawPart (r : Ev) (f : Fx) (e : Option Expr) (σ : S) (o : Orc) : R (Option Int) := match e with
  | none => ret none σ o
  | some e => bnd (r.e f e σ o) fun x σ o => opt x.i? fun i => ret (some i) σ o
theorem lawPart_ok (H : Sound prog K n r) {e : Option Expr} {v : Option Int} {σ' : S} {o' : Orc} {g : List Prop} (h : lawPart r f e σ o = some (v, σ', o', g)) (hg : ∀ p ∈ g, p) : EvP prog K f (n + 1) e σ v σ' := by
  cases e with
  | none => cases h; exact .none
  | some e =>
    replace h := bnd_some h
    obtain ⟨x, σ₁, o₁, g1, g2, h1, h, k1⟩ := h
    replace h := opt_some h
    obtain ⟨i, h2, h⟩ := h
    cases h
    exact .some (H.e' h1 (k1 hg).1) h2
noncomputable def lawSlice (r : Ev) (f : Fx) (v : Expr) (lo hi : Option Expr) (σ : S) (o : Orc) : R AV := bnd (r.e f v σ o) fun x σ o => bnd (lawPart r f lo σ o) fun kl σ o => bnd (lawPart r f hi σ o) fun kh σ o => opt (listI σ x) fun p =>
  some (.obj σ.objs.length, { σ with objs := σ.objs ++ [.il (sliceI p.2.2 kl kh)] }, o, (p.2.2.length ≤ 60000) :: sliceG p.2.2 kl kh)
theorem lawSlice_ok (H : Sound prog K n r) {v : Expr} {lo hi : Option Expr} {p pos : Pos} {z : AV} {σ' : S} {o' : Orc} {g : List Prop} (h : lawSlice r f v lo hi σ o = some (z, σ', o', g)) (hg : ∀ p ∈ g, p) : EvE prog K f (n + 1) (.Subscript v (.Slice lo hi none p) pos) σ z σ' := by
  replace h := bnd_some h
  obtain ⟨x, σ₁, o₁, g1, g2, h1, h, k1⟩ := h
  replace h := bnd_some h
  obtain ⟨kl, σ₂, o₂, g3, g4, h2, h, k2⟩ := h
  replace h := bnd_some h
  obtain ⟨kh, σ₃, o₃, g5, g6, h3, h, k3⟩ := h
  replace h := opt_some h
  obtain ⟨⟨i, ao, xs⟩, h4, h'⟩ := h
  obtain ⟨rfl, a2, a3⟩ := listI_of h4
  have k1 := k1 hg
  have k2 := k2 k1.2
  have k3 := k3 k2.2
  exact finEg h' k3.2 fun hgs => .slice (H.e' h1 k1.1) (lawPart_ok H h2 k2.1) (lawPart_ok H h3 k3.1) a2 a3 (hgs _ (.head _)) fun p hp => hgs p (.tail _ hp)
noncomputable def dictAt (σ : S) (x : AV) : Option (Nat × List (Str × AV)) := match x with
  | .obj i => match nth σ.objs i with
    | some (.dict es) => some (i, es)
    | _ => none
  | _ => none
theorem dictAt_of {x : AV} {i : Nat} {es : List (Str × AV)} (h : dictAt σ x = some (i, es)) : x = .obj i ∧ σ.objs[i]? = some (.dict es) := by
  unfold dictAt at h
  split at h
  · split at h
    · rename_i e
      cases h
      rw [nth_eq] at e
      exact ⟨rfl, e⟩
    · first | exact no_ h | cases h
  · first | exact no_ h | cases h
noncomputable def lawItem (T : Tab) (r : Ev) (f : Fx) (v s : Expr) (σ : S) (o : Orc) : R AV := tst (notSlice s) (bnd (r.e f v σ o) fun x σ o => bnd (r.e f s σ o) fun y σ o => match dictAt σ x with
  | some (_, es) => opt y.s? fun k => opt (look k es) fun z => ret z σ o
  | none => stItem T x y σ o)
theorem lawItem_ok (HT : TabOk K U.T) (H : Sound prog K n r) {v s : Expr} {pos : Pos} {z : AV} {σ' : S} {o' : Orc} {g : List Prop} (h : lawItem U.T r f v s σ o = some (z, σ', o', g)) (hg : ∀ p ∈ g, p) : EvE prog K f (n + 1) (.Subscript v s pos) σ z σ' := by
  replace h := tst_some h
  obtain ⟨hn, h⟩ := h
  replace h := bnd_some h
  obtain ⟨x, σ₁, o₁, g1, g2, h1, h, k1⟩ := h
  replace h := bnd_some h
  obtain ⟨y, σ₂, o₂, g3, g4, h2, h, k2⟩ := h
  have k1 := k1 hg
  have k2 := k2 k1.2
  cases q : dictAt σ₂ x with
  | none => rw [q] at h; exact stItem_ok HT h k2.2 (H.e' h1 k1.1) (H.e' h2 k2.1) hn
  | some p =>
    obtain ⟨i, es⟩ := p
    rw [q] at h
    obtain ⟨rfl, a2⟩ := dictAt_of q
    replace h := opt_some h
    obtain ⟨k, h3, h⟩ := h
    replace h := opt_some h
    obtain ⟨z', h4, h⟩ := h
    exact finE h (.subD (H.e' h1 k1.1) (H.e' h2 k2.1) hn h3 a2 h4)
/-! calls -/
noncomputable def lawCall (T : Tab) (r : Ev) (f : Fx) (x : Str) (p : Pos) (es : List Expr) (σ : S) (o : Orc) : R AV := match stName T f x σ o with
  | some (.blt b, σ, o, g) => grd g (bnd (stArgs r f es σ o) fun xs σ o => opt (bltV b xs σ.objs) fun q => some (q.1, { σ with objs := q.2.1 }, o, q.2.2))
  | _ => stCall r f (.Name x p) es σ o
theorem lawCall_ok (HT : TabOk K U.T) (H : Sound prog K n r) {x : Str} {p pos : Pos} {es : List Expr} {z : AV} {σ' : S} {o' : Orc} {g : List Prop} (h : lawCall U.T r f x p es σ o = some (z, σ', o', g)) (hg : ∀ p ∈ g, p) : EvE prog K f (n + 1) (.Call (.Name x p) es [] pos) σ z σ' := by
  unfold lawCall at h
  split at h
  · rename_i b σ₁ o₁ g0 e
    replace h := grd_some h
    obtain ⟨g2, h, k0⟩ := h
    have k0 := k0 hg
    replace h := bnd_some h
    obtain ⟨xs, σ₂, o₂, g3, g4, h2, h, k2⟩ := h
    replace h := opt_some h
    obtain ⟨⟨q1, q2, q3⟩, h3, h⟩ := h
    have k2 := k2 k0.2
    obtain ⟨A1, A2⟩ := stArgs_ok H h2 k2.1
    exact finEg h k2.2 fun hgs => .callV (stName_ok HT e) A2 (call_eq rfl) A1 (bltV_of h3 hgs)
  · exact stCall_ok H h hg
noncomputable def lawMeth (T : Tab) (r : Ev) (f : Fx) (y name : Str) (apos : Pos) (es : List Expr) (pos : Pos) (σ : S) (o : Orc) : R AV := match stName T f y σ o with
  | some (.obj i, σ₁, o₁, g) => match opt (nth σ₁.objs i) sizeO with
    | some _ => opt (lmOf name) fun l => tst (Nat.blt es.length 29 && Nat.beq apos.endLine pos.line) (grd g (bnd (stArgs r f es σ₁ o₁) fun xs σ o => opt (lmV l i xs σ.objs) fun q => some (.val .none, { σ with objs := q.1 }, o, q.2)))
    | none => stMeth T r f y name apos es pos σ o
  | _ => none
theorem lawMeth_ok (HT : TabOk K U.T) (H : Sound prog K n r) {y name : Str} {np apos pos : Pos} {es : List Expr} {z : AV} {σ' : S} {o' : Orc} {g : List Prop} (h : lawMeth U.T r f y name apos es pos σ o = some (z, σ', o', g)) (hg : ∀ p ∈ g, p) : EvE prog K f (n + 1) (.Call (.Attribute (.Name y np) name apos) es [] pos) σ z σ' := by
  unfold lawMeth at h
  split at h
  · rename_i i σ₁ o₁ g0 e
    split at h
    · rename_i sz e2
      replace e2 := opt_some e2
      obtain ⟨ao, e3, e4⟩ := e2
      rw [nth_eq] at e3
      replace h := opt_some h
      obtain ⟨l, hl, h⟩ := h
      replace h := tst_some h
      obtain ⟨hp, h⟩ := h
      replace h := grd_some h
      obtain ⟨g2, h, k0⟩ := h
      have k0 := k0 hg
      replace h := bnd_some h
      obtain ⟨xs, σ₂, o₂, g3, g4, h2, h, k2⟩ := h
      replace h := opt_some h
      obtain ⟨⟨q1, q2⟩, h3, h⟩ := h
      have k2 := k2 k0.2
      obtain ⟨A1, A2⟩ := stArgs_ok H h2 k2.1
      obtain ⟨hp1, hp2⟩ := Bool.and_eq_true_iff.mp hp
      have hlen : es.length < 29 := Nat.lt_of_lt_of_le (Nat.lt_succ_self _) (Nat.le_of_ble_eq_true hp1)
      obtain ⟨L1, L2⟩ := lm_facts l
      rw [lmOf_of hl]
      refine finEg h k2.2 fun hgs => .callLm (zs := []) (stName_ok HT e) (fun _ => rfl) A2 hlen (by rw [Nat.eq_of_beq_eq_true hp2]; exact beq_self_eq_true _) L1 L2 e3 (fun P as o r => ?_) A1 (lmV_of h3 hgs)
      cases ao <;> first | exact no_ e4 | skip
      · obtain ⟨vs, k, e, _⟩ := r; exact ⟨vs, k, e⟩
      · obtain ⟨vs, k, e, _⟩ := r; exact ⟨vs, k, e⟩
    · exact stMeth_ok HT H h hg
  · first | exact no_ h | cases h
end
end Mine
/-! text M21 -/
open PySem PySem.W PyProof.Rows PySem.Spec PySem.Calls
set_option Elab.async false
set_option maxRecDepth 100000
namespace Mine
section
variable {prog : Program} {K : Params → Frag} {U : Tab2} {n : Nat} {r : Ev} {f : Fx} {σ : S} {o : Orc}
/-! expressions -/
noncomputable def allSome : List (Option Expr) → Bool
  | [] => true
  | some _ :: r => allSome r
  | none :: _ => false
theorem allSome_of : ∀ {l : List (Option Expr)}, allSome l = true → l.all (·.isSome) = true
  | [], _ => rfl
  | some _ :: r, h => by show (true && r.all _) = true; rw [allSome_of (l := r) h]; rfl
  | none :: _, h => nomatch h
noncomputable def isNil {α : Type} : List α → Bool
  | [] => true
  | _ => false
noncomputable def askE (prog : Program) (K : Params → Frag) (n : Nat) (f : Fx) (e : Expr) (σ : S) (o : Orc) : R AV := match o with
  | q :: o' => match q with
    | .e x σ' => some (x, σ', o', [EvE prog K f n e σ x σ'])
    | _ => none
  | [] => none
noncomputable def lawList (r : Ev) (f : Fx) (mk : List AV → AO) (es : List Expr) (σ : S) (o : Orc) : R AV := bnd (stArgs r f es σ o) fun xs σ o => tst (Nat.ble xs.length 1000) (ret (.obj σ.objs.length) { σ with objs := σ.objs ++ [mk xs] } o)
noncomputable def lawDict (ks : List (Option Expr)) (vs : List Expr) (σ : S) (o : Orc) : R AV := opt (constPairs ks vs) fun l => tst (!hasDup l) (tst (allSome ks) (tst (Nat.beq ks.length vs.length) (tst (!isNil ks) (tst (Nat.ble ks.length 15) (ret (.obj σ.objs.length) { σ with objs := σ.objs ++ [.dict (l.map fun p => (p.1, .cint p.2))] } o)))))
noncomputable def lawDictD (ks : List (Option Expr)) (vs : List Expr) (σ : S) (o : Orc) : R AV := match ks with
  | [] => match vs with
    | [] => ret (.obj σ.objs.length) { σ with objs := σ.objs ++ [.dict []] } o
    | _ :: _ => none
  | k :: ks => lawDict (k :: ks) vs σ o
noncomputable def lawCmpD (n : Nat) (r : Ev) (f : Fx) (l : Expr) (ops : List CmpOp) (es : List Expr) (σ : S) (o : Orc) : R AV := match ops, es with
  | [op], [e] => lawCmp n r f op l e σ o
  | _, _ => none
noncomputable def lawSubD (T : Tab) (r : Ev) (f : Fx) (v s : Expr) (σ : S) (o : Orc) : R AV := match s with
  | .Slice lo hi st _ => match st with
    | none => lawSlice r f v lo hi σ o
    | some _ => none
  | s => lawItem T r f v s σ o
noncomputable def lawMethD (T : Tab) (r : Ev) (f : Fx) (v : Expr) (name : Str) (apos : Pos) (es : List Expr) (pos : Pos) (σ : S) (o : Orc) : R AV := match v with
  | .Name y _ => lawMeth T r f y name apos es pos σ o
  | _ => none
noncomputable def lawCallD (T : Tab) (r : Ev) (f : Fx) (fe : Expr) (es : List Expr) (pos : Pos) (σ : S) (o : Orc) : R AV := match fe with
  | .Name x p => lawCall T r f x p es σ o
  | .Attribute v name apos => lawMethD T r f v name apos es pos σ o
  | fe => stCall r f fe es σ o
noncomputable def lawCallK (prog : Program) (K : Params → Frag) (n : Nat) (T : Tab) (r : Ev) (f : Fx) (fe : Expr) (es : List Expr) (ks : List Keyword) (pos : Pos) (σ : S) (o : Orc) : R AV := match ks with
  | [] => lawCallD T r f fe es pos σ o
  | k :: ks => match es with
    | [] => askE prog K n f (.Call fe [] (k :: ks) pos) σ o
    | _ :: _ => none
noncomputable def lawE (prog : Program) (K : Params → Frag) (n : Nat) (U : Tab2) (r : Ev) (f : Fx) (e : Expr) (σ : S) (o : Orc) : R AV := match e with
  | .ListComp a b c d => askE prog K n f (.ListComp a b c d) σ o
  | .BoolOp a b c => askE prog K n f (.BoolOp a b c) σ o
  | .Call fe es ks pos => lawCallK prog K n U.T r f fe es ks pos σ o
  | .List es _ => lawList r f .list es σ o
  | .Tuple es _ _ => lawList r f .tup es σ o
  | .Dict ks vs _ => lawDictD ks vs σ o
  | .Compare l ops es _ => lawCmpD n r f l ops es σ o
  | .BinOp l op e _ => arith r f op l e σ o
  | .Subscript v s _ => lawSubD U.T r f v s σ o
  | e => stE U.T r f e σ o
theorem askE_ok {e : Expr} {z : AV} {σ' : S} {o' : Orc} {g : List Prop} (h : askE prog K n f e σ o = some (z, σ', o', g)) (hg : ∀ p ∈ g, p) : EvE prog K f n e σ z σ' := by
  cases o with
  | nil => exact no_ h
  | cons q o =>
    cases q with
    | e x σ₂ => cases h; exact hg _ (.head _)
    | _ => exact no_ h
theorem lawList_ok (H : Sound prog K n r) {mk : List AV → AO} {es : List Expr} {z : AV} {σ' : S} {o' : Orc} {g : List Prop} (h : lawList r f mk es σ o = some (z, σ', o', g)) (hg : ∀ p ∈ g, p) : ∃ xs σ₁, EvA prog K f (n + 1) es σ xs σ₁ ∧ xs.length ≤ 1000 ∧ z = .obj σ₁.objs.length ∧ σ' = { σ₁ with objs := σ₁.objs ++ [mk xs] } := by
  obtain ⟨xs, σ₁, o₁, g1, g2, h1, h, k1⟩ := bnd_some h
  obtain ⟨hz, h⟩ := tst_some h
  cases h
  exact ⟨xs, σ₁, (stArgs_ok H h1 (k1 hg).1).1, Nat.le_of_ble_eq_true hz, rfl, rfl⟩
theorem lawDict_ok {ks : List (Option Expr)} {vs : List Expr} {pos : Pos} {z : AV} {σ' : S} {o' : Orc} {g : List Prop} (h : lawDict ks vs σ o = some (z, σ', o', g)) : EvE prog K f n (.Dict ks vs pos) σ z σ' := by
  obtain ⟨l, h1, h⟩ := opt_some h
  obtain ⟨h2, h⟩ := tst_some h
  obtain ⟨h3, h⟩ := tst_some h
  obtain ⟨h4, h⟩ := tst_some h
  obtain ⟨h5, h⟩ := tst_some h
  obtain ⟨h6, h⟩ := tst_some h
  refine finE h ?_
  exact .dictC h1 (by simpa using h2) (allSome_of h3) (Nat.eq_of_beq_eq_true h4) (fun e => by rw [e] at h5; cases h5) (Nat.le_of_ble_eq_true h6)
theorem lawDictD_ok {ks : List (Option Expr)} {vs : List Expr} {pos : Pos} {z : AV} {σ' : S} {o' : Orc} {g : List Prop} (h : lawDictD ks vs σ o = some (z, σ', o', g)) : EvE prog K f n (.Dict ks vs pos) σ z σ' := by
  cases ks with
  | nil =>
    cases vs with
    | nil => cases h; exact .dict0
    | cons => exact no_ h
  | cons => exact lawDict_ok h
theorem lawCmpD_ok (HT : TabOk K U.T) (H : Sound prog K n r) {l : Expr} {ops : List CmpOp} {es : List Expr} {pos : Pos} {z : AV} {σ' : S} {o' : Orc} {g : List Prop} (h : lawCmpD (n + 1) r f l ops es σ o = some (z, σ', o', g)) (hg : ∀ p ∈ g, p) : EvE prog K f (n + 1) (.Compare l ops es pos) σ z σ' := by
  rcases ops with _ | ⟨op, _ | ⟨op', ops⟩⟩
  · exact no_ h
  · rcases es with _ | ⟨e, _ | ⟨e', es⟩⟩
    · exact no_ h
    · obtain ⟨x, y, σ₁, h1, h2, h3, h4⟩ := lawCmp_ok HT H h hg
      exact .cmpAt h1 h2 h3 h4
    · exact no_ h
  · exact no_ h
theorem lawSubD_ok (HT : TabOk K U.T) (H : Sound prog K n r) {v s : Expr} {pos : Pos} {z : AV} {σ' : S} {o' : Orc} {g : List Prop} (h : lawSubD U.T r f v s σ o = some (z, σ', o', g)) (hg : ∀ p ∈ g, p) : EvE prog K f (n + 1) (.Subscript v s pos) σ z σ' := by
  cases s with
  | Slice lo hi st p =>
    cases st with
    | none => exact lawSlice_ok H h hg
    | some => exact no_ h
  | _ => exact lawItem_ok (o := o) HT H h hg
theorem lawMethD_ok (HT : TabOk K U.T) (H : Sound prog K n r) {v : Expr} {name : Str} {apos pos : Pos} {es : List Expr} {z : AV} {σ' : S} {o' : Orc} {g : List Prop} (h : lawMethD U.T r f v name apos es pos σ o = some (z, σ', o', g)) (hg : ∀ p ∈ g, p) : EvE prog K f (n + 1) (.Call (.Attribute v name apos) es [] pos) σ z σ' := by
  cases v with
  | Name => exact lawMeth_ok HT H h hg
  | _ => exact no_ h
theorem lawCallD_ok (HT : TabOk K U.T) (H : Sound prog K n r) {fe : Expr} {es : List Expr} {pos : Pos} {z : AV} {σ' : S} {o' : Orc} {g : List Prop} (h : lawCallD U.T r f fe es pos σ o = some (z, σ', o', g)) (hg : ∀ p ∈ g, p) : EvE prog K f (n + 1) (.Call fe es [] pos) σ z σ' := by
  cases fe with
  | Name => exact lawCall_ok HT H h hg
  | Attribute => exact lawMethD_ok HT H h hg
  | _ => exact stCall_ok (o := o) H h hg
theorem lawCallK_ok (HT : TabOk K U.T) (H : Sound prog K n r) {fe : Expr} {es : List Expr} {ks : List Keyword} {pos : Pos} {z : AV} {σ' : S} {o' : Orc} {g : List Prop} (h : lawCallK prog K (n + 1) U.T r f fe es ks pos σ o = some (z, σ', o', g)) (hg : ∀ p ∈ g, p) : EvE prog K f (n + 1) (.Call fe es ks pos) σ z σ' := by
  cases ks with
  | nil => exact lawCallD_ok HT H h hg
  | cons =>
    cases es with
    | nil => exact askE_ok h hg
    | cons => exact no_ h
theorem lawE_ok (HT : TabOk K U.T) (H : Sound prog K n r) {e : Expr} {z : AV} {σ' : S} {o' : Orc} {g : List Prop} (h : lawE prog K (n + 1) U r f e σ o = some (z, σ', o', g)) (hg : ∀ p ∈ g, p) : EvE prog K f (n + 1) e σ z σ' := by
  cases e with
  | ListComp => exact askE_ok h hg
  | BoolOp => exact askE_ok h hg
  | Call => exact lawCallK_ok HT H h hg
  | List =>
    obtain ⟨xs, σ₁, h1, h2, rfl, rfl⟩ := lawList_ok H h hg
    exact .list h1 h2
  | Tuple =>
    obtain ⟨xs, σ₁, h1, h2, rfl, rfl⟩ := lawList_ok H h hg
    exact .tuple h1 h2
  | Dict => exact lawDictD_ok h
  | Compare => exact lawCmpD_ok HT H h hg
  | BinOp => exact arith_ok H h hg
  | Subscript => exact lawSubD_ok HT H h hg
  | _ => exact stE_ok (o := o) HT H h hg
noncomputable def lawCmpT (n : Nat) (r : Ev) (f : Fx) (l : Expr) (ops : List CmpOp) (es : List Expr) (p : Pos) (σ : S) (o : Orc) : R Bool := match ops, es with
  | [op], [e] => bnd (lawCmp n r f op l e σ o) fun x σ o => stTruth x σ o
  | ops, es => stTst r f (.Compare l ops es p) σ o
noncomputable def lawT (n : Nat) (r : Ev) (f : Fx) (e : Expr) (σ : S) (o : Orc) : R Bool := match e with
  | .Compare l ops es p => lawCmpT n r f l ops es p σ o
  | e => stTst r f e σ o
theorem lawCmpT_ok (HT : TabOk K U.T) (H : Sound prog K n r) {l : Expr} {ops : List CmpOp} {es : List Expr} {p : Pos} {z : Bool} {σ' : S} {o' : Orc} {g : List Prop} (h : lawCmpT (n + 1) r f l ops es p σ o = some (z, σ', o', g)) (hg : ∀ p ∈ g, p) : EvT prog K f (n + 1) (.Compare l ops es p) σ z σ' := by
  rcases ops with _ | ⟨op, _ | ⟨op', ops⟩⟩
  · exact stTst_ok H h hg
  · rcases es with _ | ⟨e, _ | ⟨e', es⟩⟩
    · exact stTst_ok H h hg
    · obtain ⟨y, σ₁, o₁, g1, g2, h1, h, k1⟩ := bnd_some h
      obtain ⟨x, y', σ₂, e1, e2, e3, e4⟩ := lawCmp_ok HT H h1 (k1 hg).1
      obtain ⟨⟨k, ht⟩, rfl⟩ := stTruth_ok h (k1 hg).2
      exact .cmpAt e1 e2 e3 e4 ht
    · exact stTst_ok H h hg
  · exact stTst_ok H h hg
theorem lawT_ok (HT : TabOk K U.T) (H : Sound prog K n r) {e : Expr} {z : Bool} {σ' : S} {o' : Orc} {g : List Prop} (h : lawT (n + 1) r f e σ o = some (z, σ', o', g)) (hg : ∀ p ∈ g, p) : EvT prog K f (n + 1) e σ z σ' := by
  cases e with
  | Compare => exact lawCmpT_ok HT H h hg
  | _ => exact stTst_ok (o := o) H h hg
/-! targets -/
noncomputable def tgName (f : Fx) (x : Str) (av : AV) (σ : S) : Option S := tst f.fn (opt (look x f.cs.names) fun k => match k with
  | .local => opt (setLoc x av σ.locs) fun l => some { σ with locs := l }
  | .cell => opt (look x σ.cells) fun i => opt (nth σ.objs i) fun ao => match ao with
    | .cell _ => some { σ with objs := upd σ.objs i (.cell (some av)) }
    | _ => none
  | _ => none)
theorem tgName_ok {x : Str} {pos : Pos} {av : AV} {σ' : S} (h : tgName f x av σ = some σ') : EvAs prog K f n (.Name x pos) av σ σ' := by
  replace h := tst_some h
  obtain ⟨hf, h⟩ := h
  replace h := opt_some h
  obtain ⟨k, hk, h⟩ := h
  cases k <;> first | exact no_ h | (cases h; done) | skip
  · replace h := opt_some h
    obtain ⟨l, hl, h⟩ := h
    cases h
    exact .local hf hl hk
  · replace h := opt_some h
    obtain ⟨i, hi, h⟩ := h
    replace h := opt_some h
    obtain ⟨ao, ho, h⟩ := h
    rw [nth_eq] at ho
    cases ao <;> first | exact no_ h | (cases h; done) | skip
    cases h
    rw [upd_eq]
    exact .cell hi ho hk
noncomputable def tgOne (f : Fx) (t : Expr) (av : AV) (σ : S) : Option S := match t with
  | .Name x _ => tgName f x av σ
  | _ => none
theorem tgOne_ok {t : Expr} {av : AV} {σ' : S} (h : tgOne f t av σ = some σ') : EvAs prog K f n t av σ σ' ∧ notStar t = true := by
  cases t with
  | Name => exact ⟨tgName_ok h, rfl⟩
  | _ => exact no_ h
noncomputable def tgNames (f : Fx) : List Expr → List AV → S → Option S
  | [], avs, σ => match avs with
    | [] => some σ
    | _ :: _ => none
  | t :: ts, avs, σ => match avs with
    | [] => none
    | av :: avs => opt (tgOne f t av σ) fun σ => tgNames f ts avs σ
theorem tgNames_ok : ∀ {ts : List Expr} {avs : List AV} {σ σ' : S}, tgNames f ts avs σ = some σ' → EvAll prog K f n ts avs σ σ'
  | [], avs, σ, σ', h => by
    cases avs with
    | nil => cases h; exact .nil
    | cons => exact no_ h
  | t :: ts, avs, σ, σ', h => by
    cases avs with
    | nil => exact no_ h
    | cons av avs =>
      have h : (opt (tgOne f t av σ) fun σ => tgNames f ts avs σ) = some σ' := h
      obtain ⟨σ₁, h1, h⟩ := opt_some h
      exact .cons (tgOne_ok (prog := prog) (K := K) (n := n) h1).2 (tgOne_ok h1).1 (tgNames_ok h)
noncomputable def tupAt (U : Tab2) (σ : S) (x : AV) : Option (List AV) := match x with
  | .obj i => match nth σ.objs i with
    | some (.tup xs) => some xs
    | _ => none
  | .val (.ref a) => atA a U.tups
  | _ => none
theorem tupAt_of (HU : Tab2Ok K U) {x : AV} {xs : List AV} (h : tupAt U σ x = some xs) : IsT K σ x xs := by
  unfold tupAt at h
  split at h
  · split at h
    · rename_i e
      cases h
      rw [nth_eq] at e
      exact .told e
    · first | exact no_ h | cases h
  · exact .kept (HU.tups _ (atA_mem h))
  · first | exact no_ h | cases h
noncomputable def tgt (U : Tab2) (f : Fx) (t : Expr) (x : AV) (σ : S) : Option S := match t with
  | .Name y _ => tgName f y x σ
  | .Tuple ts _ _ => opt (tupAt U σ x) fun xs => tgNames f ts xs σ
  | _ => none
theorem tgt_ok (HU : Tab2Ok K U) {t : Expr} {x : AV} {σ' : S} (h : tgt U f t x σ = some σ') : EvAs prog K f n t x σ σ' := by
  unfold tgt at h
  split at h
  · exact tgName_ok h
  · replace h := opt_some h
    obtain ⟨xs, h1, h⟩ := h
    exact .tuple (tupAt_of HU h1) (tgNames_ok h)
  · first | exact no_ h | cases h
noncomputable def turns (U : Tab2) (r : Ev) (f : Fx) (t : Expr) (body : List Stmt) : List AV → S → Orc → R Out
  | [], σ, o => ret .next σ o
  | x :: xs, σ, o => opt (tgt U f t x σ) fun σ => bnd (r.b f body σ o) fun out σ o => match out with
    | .next => turns U r f t body xs σ o
    | .cont => turns U r f t body xs σ o
    | .brk => ret .next σ o
    | .ret v => ret (.ret v) σ o
theorem turns_ok (HU : Tab2Ok K U) (H : Sound prog K n r) {t : Expr} {body : List Stmt} {Kp : S → Prop} (hK : ∀ τ, Kp τ) : ∀ {xs : List AV} {σ : S} {o : Orc} {out : Out} {σ' : S} {o' : Orc} {g : List Prop}, turns U r f t body xs σ o = some (out, σ', o', g) → (∀ p ∈ g, p) → Turns prog K f (n + 1) t body Kp xs σ out σ'
  | [], σ, o, out, σ', o', g, h, hg => by cases h; exact .nil (hK _)
  | x :: xs, σ, o, out, σ', o', g, h, hg => by
    replace h := opt_some h
    obtain ⟨σ₁, h1, h⟩ := h
    replace h := bnd_some h
    obtain ⟨z, σ₂, o₂, g1, g2, h2, h, k1⟩ := h
    have k1 := k1 hg
    have B := H.b' h2 k1.1
    have A : EvAs prog K f (n + 1) t x σ σ₁ := tgt_ok HU h1
    cases z with
    | next => exact .next (hK _) A B (.inl rfl) (turns_ok HU H hK h k1.2)
    | cont => exact .next (hK _) A B (.inr rfl) (turns_ok HU H hK h k1.2)
    | brk => cases h; exact .brk (hK _) A B
    | ret v => cases h; exact .ret (hK _) A B
noncomputable def plainIter : Expr → Bool
  | .Name .. => true
  | .Call .. => true
  | .Subscript .. => true
  | _ => false
theorem plainIter_of {e : Expr} (h : plainIter e = true) (env : Env) (x : Value) : foldedSetIterable e env x = pure x := by cases e <;> first | exact nb_ h | rfl
noncomputable def keptRows (U : Tab2) (x : AV) : Option (List AV) := match x with
  | .val (.ref a) => atA a U.rows
  | _ => none
theorem keptRows_of (HU : Tab2Ok K U) {x : AV} {xs : List AV} (h : keptRows U x = some xs) : ∀ τ : S, SrcL K τ x xs := by
  unfold keptRows at h
  split at h
  · exact fun τ => .kept (HU.rows _ (atA_mem h))
  · first | exact no_ h | cases h
noncomputable def lawFor (U : Tab2) (r : Ev) (f : Fx) (t iter : Expr) (body : List Stmt) (σ : S) (o : Orc) : R Out := tst (plainIter iter) (tst (plainTarget t) (bnd (r.e f iter σ o) fun x σ o => opt (keptRows U x) fun xs => turns U r f t body xs σ o))
theorem lawFor_ok (HU : Tab2Ok K U) (H : Sound prog K n r) {t iter : Expr} {body : List Stmt} {pos : Pos} {z : Out} {σ' : S} {o' : Orc} {g : List Prop} (h : lawFor U r f t iter body σ o = some (z, σ', o', g)) (hg : ∀ p ∈ g, p) : EvS prog K f (n + 1) (.For t iter body [] pos) σ z σ' := by
  replace h := tst_some h
  obtain ⟨hi, h⟩ := h
  replace h := tst_some h
  obtain ⟨ht, h⟩ := h
  replace h := bnd_some h
  obtain ⟨x, σ₁, o₁, g1, g2, h1, h, k1⟩ := h
  replace h := opt_some h
  obtain ⟨xs, h2, h⟩ := h
  have k1 := k1 hg
  have S := keptRows_of HU h2
  exact .forL (H.e' h1 k1.1) (S _) ht (turns_ok HU H S h k1.2) (plainIter_of hi)
/-! statements -/
theorem swaps_cell {a : Expr} {b : List Comprehension} {c : Scope} {d : Pos} {x : Str} {pos : Pos} {l : Nat} {env : Env} (h : env.kindOf x = some .cell) : swapsWith (.ListComp a b c d) (some (.Name x pos)) l env = pure false := by
  unfold swapsWith
  dsimp only
  rw [h]
  show (pure (_ && false && _ && _) : Sem Bool) = pure false
  rw [Bool.and_false, Bool.false_and, Bool.false_and]
noncomputable def compSt (f : Fx) (x : Str) (av : AV) (σ : S) (o : Orc) : R Out := opt (look x f.cs.names) fun k => match k with
  | .cell => opt (look x σ.cells) fun i => cellSt av i σ o
  | _ => none
noncomputable def subSt (av y w : AV) (σ : S) (o : Orc) : R Out := match dictAt σ w with
  | some p => opt y.s? fun k => tst (Nat.ble p.2.length 1000) (ret .next { σ with objs := upd σ.objs p.1 (.dict (setA k av p.2)) } o)
  | none => ilSt av y w σ o
noncomputable def lawSubSt (r : Ev) (f : Fx) (a s v : Expr) (σ : S) (o : Orc) : R Out := tst (notComp v) (bnd (r.e f v σ o) fun av σ o => bnd (r.e f a σ o) fun w σ o => bnd (r.e f s σ o) fun y σ o => subSt av y w σ o)
noncomputable def lawNameSt (prog : Program) (K : Params → Frag) (n : Nat) (T : Tab) (r : Ev) (f : Fx) (x : Str) (xp : Pos) (v : Expr) (p : Pos) (σ : S) (o : Orc) : R Out := match v with
  | .ListComp a b c d => bnd (r.e f (.ListComp a b c d) σ o) fun av σ o => compSt f x av σ o
  | v => stS prog K n T r f (.Assign [.Name x xp] v p) σ o
noncomputable def lawAsg (prog : Program) (K : Params → Frag) (n : Nat) (T : Tab) (r : Ev) (f : Fx) (t v : Expr) (p : Pos) (σ : S) (o : Orc) : R Out := match t with
  | .Tuple a b c => askS prog K n f (.Assign [.Tuple a b c] v p) σ o
  | .Name x xp => lawNameSt prog K n T r f x xp v p σ o
  | .Subscript a s _ => lawSubSt r f a s v σ o
  | t => stS prog K n T r f (.Assign [t] v p) σ o
noncomputable def lawAsgs (prog : Program) (K : Params → Frag) (n : Nat) (T : Tab) (r : Ev) (f : Fx) (ts : List Expr) (v : Expr) (p : Pos) (σ : S) (o : Orc) : R Out := match ts with
  | [t] => lawAsg prog K n T r f t v p σ o
  | _ => none
noncomputable def lawForD (prog : Program) (K : Params → Frag) (n : Nat) (U : Tab2) (r : Ev) (f : Fx) (t iter : Expr) (body orelse : List Stmt) (p : Pos) (σ : S) (o : Orc) : R Out := match orelse with
  | [] => match o with
    | q :: o' => match q with
      | .s z σ' => some (z, σ', o', [EvS prog K f n (.For t iter body [] p) σ z σ'])
      | q => lawFor U r f t iter body σ (q :: o')
    | [] => lawFor U r f t iter body σ []
  | _ :: _ => none
noncomputable def lawS (prog : Program) (K : Params → Frag) (n : Nat) (U : Tab2) (r : Ev) (f : Fx) (st : Stmt) (σ : S) (o : Orc) : R Out := match st with
  | .Assign ts v p => lawAsgs prog K n U.T r f ts v p σ o
  | .For t iter body orelse p => lawForD prog K n U r f t iter body orelse p σ o
  | st => stS prog K n U.T r f st σ o
theorem lawNameSt_ok (HT : TabOk K U.T) (H : Sound prog K n r) {x : Str} {xp : Pos} {v : Expr} {p : Pos} {z : Out} {σ' : S} {o' : Orc} {g : List Prop} (h : lawNameSt prog K (n + 1) U.T r f x xp v p σ o = some (z, σ', o', g)) (hg : ∀ p ∈ g, p) : EvS prog K f (n + 1) (.Assign [.Name x xp] v p) σ z σ' := by
  cases v with
  | ListComp a b c d =>
    obtain ⟨av, σ₁, o₁, g1, g2, h1, h, k1⟩ := bnd_some h
    obtain ⟨k, hk, h⟩ := opt_some h
    cases k with
    | cell =>
      obtain ⟨i, hi, h⟩ := opt_some h
      obtain ⟨ao, ho, h⟩ := opt_some h
      rw [nth_eq] at ho
      cases ao with
      | cell =>
        refine finS h ?_
        rw [upd_eq]
        exact .assignC (H.e' h1 (k1 hg).1) hi ho hk fun _ e => swaps_cell e
      | _ => exact no_ h
    | _ => exact no_ h
  | _ => exact stS_ok (o := o) HT H h hg
theorem lawSubSt_ok (H : Sound prog K n r) {a s v : Expr} {tp pos : Pos} {z : Out} {σ' : S} {o' : Orc} {g : List Prop} (h : lawSubSt r f a s v σ o = some (z, σ', o', g)) (hg : ∀ p ∈ g, p) : EvS prog K f (n + 1) (.Assign [.Subscript a s tp] v pos) σ z σ' := by
  obtain ⟨hc, h⟩ := tst_some h
  obtain ⟨av, σ₁, o₁, g1, g2, h1, h, k1⟩ := bnd_some h
  obtain ⟨w, σ₂, o₂, g3, g4, h2, h, k2⟩ := bnd_some h
  obtain ⟨y, σ₃, o₃, g5, g6, h3, h, k3⟩ := bnd_some h
  have k1 := k1 hg
  have k2 := k2 k1.2
  have k3 := k3 k2.2
  have E1 := H.e' h1 k1.1
  have E2 := H.e' h2 k2.1
  have E3 := H.e' h3 k3.1
  unfold subSt at h
  cases q : dictAt σ₃ w with
  | some p =>
    rw [q] at h
    obtain ⟨rfl, a2⟩ := dictAt_of q
    obtain ⟨k, h4, h⟩ := opt_some h
    obtain ⟨h5, h⟩ := tst_some h
    refine finS h ?_
    rw [upd_eq]
    exact .setD E1 E2 E3 h4 a2 (Nat.le_of_ble_eq_true h5) fun _ => swaps_plain hc
  | none =>
    rw [q] at h
    exact ilSt_ok hc E1 E2 E3 h k3.2
theorem lawAsg_ok (HT : TabOk K U.T) (H : Sound prog K n r) {t v : Expr} {p : Pos} {z : Out} {σ' : S} {o' : Orc} {g : List Prop} (h : lawAsg prog K (n + 1) U.T r f t v p σ o = some (z, σ', o', g)) (hg : ∀ p ∈ g, p) : EvS prog K f (n + 1) (.Assign [t] v p) σ z σ' := by
  cases t with
  | Tuple => exact askS_ok h hg
  | Name => exact lawNameSt_ok HT H h hg
  | Subscript => exact lawSubSt_ok H h hg
  | _ => exact stS_ok (o := o) HT H h hg
theorem lawForD_ok (HU : Tab2Ok K U) (H : Sound prog K n r) {t iter : Expr} {body orelse : List Stmt} {p : Pos} {z : Out} {σ' : S} {o' : Orc} {g : List Prop} (h : lawForD prog K (n + 1) U r f t iter body orelse p σ o = some (z, σ', o', g)) (hg : ∀ p ∈ g, p) : EvS prog K f (n + 1) (.For t iter body orelse p) σ z σ' := by
  cases orelse with
  | cons => exact no_ h
  | nil =>
    cases o with
    | nil => exact lawFor_ok HU H h hg
    | cons q o =>
      cases q with
      | s x σ₂ => cases h; exact hg _ (.head _)
      | _ => exact lawFor_ok HU H h hg
theorem lawS_ok (HU : Tab2Ok K U) (H : Sound prog K n r) {st : Stmt} {z : Out} {σ' : S} {o' : Orc} {g : List Prop} (h : lawS prog K (n + 1) U r f st σ o = some (z, σ', o', g)) (hg : ∀ p ∈ g, p) : EvS prog K f (n + 1) st σ z σ' := by
  cases st with
  | Assign ts v p =>
    rcases ts with _ | ⟨t, _ | ⟨t', ts⟩⟩
    · exact no_ h
    · exact lawAsg_ok HU.T H h hg
    · exact no_ h
  | For => exact lawForD_ok HU H h hg
  | _ => exact stS_ok (o := o) HU.T H h hg
noncomputable def lawB (prog : Program) (K : Params → Frag) (n : Nat) (U : Tab2) (r : Ev) (f : Fx) : List Stmt → S → Orc → R Out
  | [], σ, o => ret .next σ o
  | st :: rest, σ, o => bnd (lawS prog K n U r f st σ o) fun z σ o => match isNext z with
    | true => lawB prog K n U r f rest σ o
    | false => ret z σ o
theorem lawB_ok (HU : Tab2Ok K U) (H : Sound prog K n r) : ∀ {b : List Stmt} {σ : S} {o : Orc} {z : Out} {σ' : S} {o' : Orc} {g : List Prop}, lawB prog K (n + 1) U r f b σ o = some (z, σ', o', g) → (∀ p ∈ g, p) → EvB prog K f (n + 1) b σ z σ'
  | [], σ, o, z, σ', o', g, h, hg => by cases h; exact .nil
  | st :: rest, σ, o, z, σ', o', g, h, hg => by
    replace h := bnd_some h
    obtain ⟨y, σ₁, o₁, g1, g2, h1, h, k1⟩ := h
    have k1 := k1 hg
    have E1 := lawS_ok HU H h1 k1.1
    cases e : isNext y with
    | true =>
      rw [e] at h
      have : y = .next := by cases y <;> first | rfl | cases e
      rw [this] at E1
      exact .cons E1 (lawB_ok HU H h k1.2)
    | false =>
      rw [e] at h
      cases h
      exact .stop E1 fun q => by rw [q] at e; cases e
noncomputable def lawEv (prog : Program) (K : Params → Frag) (U : Tab2) (n : Nat) (r : Ev) : Ev := { e := lawE prog K n U r, t := lawT n r, b := lawB prog K n U r, c := stC U.T r }
noncomputable def lawN (prog : Program) (K : Params → Frag) (U : Tab2) : Nat → Ev
  | 0 => noEv
  | n + 1 => lawEv prog K U (n + 1) (lawN prog K U n)
theorem lawN_ok (HU : Tab2Ok K U) : ∀ n, Sound prog K n (lawN prog K U n)
  | 0 => ⟨fun h => (nomatch h), fun h => (nomatch h), fun h => (nomatch h), fun h => (nomatch h)⟩
  | n + 1 => by
    have H := lawN_ok HU n
    refine ⟨fun h hg => lawE_ok HU.T H h hg, fun h hg => lawT_ok HU.T H h hg, fun h hg => lawB_ok HU H h hg, fun h hg => ?_⟩
    obtain ⟨h1, h2⟩ := stC_ok HU.T H h hg
    exact ⟨h1.more (Nat.le_succ _), h2⟩
end
end Mine
/-! text M22 -/
open PySem PySem.W PyProof.Rows PySem.Spec PySem.Calls
set_option Elab.async false
set_option maxRecDepth 100000
namespace Mine
/-! swapped stores, by computing -/
theorem swap_env {ts : List Expr} {v : Expr} {env env' : Env} (h : env.scope = env'.scope) : swappedStores ts v env = swappedStores ts v env' := by
  unfold swappedStores Env.blockKind Env.kindOf
  rw [h]
abbrev envOf (cs : Scope) : Env := envX (Str.ofString "") cs 0 0 .none []
section
variable {prog : Program} {K : Params → Frag} {f : Fx} {d : Nat} {σ σ₁ σ₂ σ₃ : S}
noncomputable def bindNs (f : Fx) : List Str → List AV → S → Option S
  | [], [], σ => some σ
  | x :: xs, v :: vs, σ => match look x f.cs.names with
    | some .local => opt (setLoc x v σ.locs) fun l => bindNs f xs vs { σ with locs := l }
    | _ => none
  | _, _, _ => none
theorem bindNs_of : ∀ {xs : List Str} {vs : List AV} {σ σ' : S}, bindNs f xs vs σ = some σ' → EvNs f xs vs σ σ'
  | [], [], σ, σ', h => by cases h; exact .nil
  | [], _ :: _, _, _, h => nomatch h
  | _ :: _, [], _, _, h => nomatch h
  | x :: xs, v :: vs, σ, σ', h => by
    unfold bindNs at h
    split at h
    · rename_i hk
      replace h := opt_some h
      obtain ⟨l, h1, h⟩ := h
      exact .cons h1 hk (bindNs_of h)
    · first | exact no_ h | cases h
theorem EvS.assignW2 {ts : List Expr} {k : Nat} {tp pos : Pos} {v : Expr} {x : AV} {xs : List AV} {names : List Str} {σ' : S} (hf : f.fn = true) (h : EvE prog K f d v σ x σ₁) (ht : IsT K σ₁ x xs) (hn : bindNs f names.reverse xs.reverse σ₁ = some σ') (hl : names.length = xs.length) (hc : notComp v = true)
    (hw : swappedStores [.Tuple ts k tp] v (envOf f.cs) = pure (some names)) : EvS prog K f d (.Assign [.Tuple ts k tp] v pos) σ .next σ' :=
  .assignW hf h ht (bindNs_of hn) hl (fun _ => by unfold swapsWithSole; exact swaps_plain hc) fun env he => (swap_env he).trans hw
theorem EvS.assignT2 {U : Tab2} (HU : Tab2Ok K U) {ts : List Expr} {k : Nat} {tp pos : Pos} {v : Expr} {x : AV} {σ' : S} (h : EvE prog K f d v σ x σ₁) (ht : tgt U f (.Tuple ts k tp) x σ₁ = some σ') (hc : notComp v = true)
    (hw : swappedStores [.Tuple ts k tp] v (envOf f.cs) = pure none) : EvS prog K f d (.Assign [.Tuple ts k tp] v pos) σ .next σ' :=
  .assignT h (tgt_ok HU ht) (fun _ => by unfold swapsWithSole; exact swaps_plain hc) fun env he => (swap_env he).trans hw
end
end Mine
/-! text M24 -/
open PySem PySem.W PyProof.Rows PySem.Spec PySem.Calls
set_option Elab.async false
set_option maxRecDepth 100000
namespace Mine
/-! comprehensions over ints -/
structure CP where
  elt : Expr
  x : Str
  px : Pos
  iter : Expr
  ifs : List Expr
  scope : Scope
  pos : Pos
noncomputable def CP.e (p : CP) : Expr := .ListComp p.elt [⟨.Name p.x p.px, p.iter, p.ifs, 0⟩] p.scope p.pos
noncomputable def cpNil : CP := ⟨.Constant .none 0 default, Str.ofString "", default, .Constant .none 0 default, [], default, default⟩
noncomputable def cpOf : Expr → CP
  | .ListComp elt [⟨.Name x px, iter, ifs, _⟩] scope pos => ⟨elt, x, px, iter, ifs, scope, pos⟩
  | _ => cpNil
noncomputable def isFn : ScopeKind → Bool
  | .function => true
  | _ => false
noncomputable def isCell : NameKind → Bool
  | .cell => true
  | _ => false
noncomputable def isLocal : NameKind → Bool
  | .local => true
  | _ => false
noncomputable def isFree : NameKind → Bool
  | .free => true
  | _ => false
noncomputable def namesB (all : List (Str × NameKind)) (cells : List (Str × Nat)) : List (Str × NameKind) → Bool
  | [] => true
  | (y, k) :: r => match isCell k with
    | true => false
    | false => match isLocal k, look y all with
      | true, some .local => namesB all cells r
      | true, _ => false
      | false, _ => match isFree k, look y cells with
        | true, some _ => namesB all cells r
        | true, none => false
        | false, _ => namesB all cells r
theorem namesB_of {all : List (Str × NameKind)} {cells : List (Str × Nat)} : ∀ {l : List (Str × NameKind)}, namesB all cells l = true → ∀ p ∈ l, p.2 ≠ .cell ∧ (p.2 = .local → look p.1 all = some .local) ∧ (p.2 = .free → ∃ i, (p.1, i) ∈ cells)
  | [], _, _, h => nomatch h
  | (y, k) :: r, h, p, hp => by
    unfold namesB at h
    cases e : isCell k with
    | true => rw [e] at h; first | exact no_ h | cases h
    | false =>
    rw [e] at h
    dsimp only at h
    rcases List.mem_cons.mp hp with rfl | hp
    · refine ⟨fun q => (by rw [show k = .cell from q] at e; cases e), fun q => ?_, fun q => ?_⟩
      · obtain rfl : k = .local := q
        dsimp only [isLocal] at h
        cases q : look y all with
        | none => rw [q] at h; first | exact no_ h | cases h
        | some k' => rw [q] at h; cases k' <;> first | rfl | exact no_ h | (cases h; done)
      · obtain rfl : k = .free := q
        dsimp only [isLocal, isFree] at h
        cases e3 : look y cells with
        | none => rw [e3] at h; first | exact no_ h | cases h
        | some i => exact ⟨i, look_mem e3⟩
    · refine namesB_of ?_ p hp
      split at h
      · exact h
      · first | exact no_ h | cases h
      · split at h
        · exact h
        · first | exact no_ h | cases h
        · exact h
noncomputable def csB (names : List (Str × NameKind)) (cells : List (Str × Nat)) : List (Str × Nat) → Bool
  | [] => true
  | (y, i) :: r => match look y names with
    | some .free => match look y cells with
      | some j => match Nat.beq j i with
        | true => csB names cells r
        | false => false
      | none => false
    | _ => false
theorem csB_of {names : List (Str × NameKind)} {cells : List (Str × Nat)} : ∀ {l : List (Str × Nat)}, csB names cells l = true → ∀ p ∈ l, p ∈ cells ∧ (p.1, NameKind.free) ∈ names
  | [], _, _, h => nomatch h
  | (y, i) :: r, h, p, hp => by
    unfold csB at h
    split at h
    · rename_i e1
      split at h
      · rename_i j e2
        split at h
        · rename_i e3
          rcases List.mem_cons.mp hp with rfl | hp
          · have := Nat.eq_of_beq_eq_true e3
            subst this
            exact ⟨look_mem e2, look_mem e1⟩
          · exact csB_of h p hp
        · first | exact no_ h | cases h
      · first | exact no_ h | cases h
    · first | exact no_ h | cases h
noncomputable def compOkB (f : Fx) (scope : Scope) (x : Str) (cs cells : List (Str × Nat)) : Bool := match isFn scope.kind with
  | true => match namesB scope.names cells scope.names with
    | true => match look x scope.names with
      | some .local => match f.fn with
        | true => csB scope.names cells cs
        | false => false
      | _ => false
    | false => false
  | false => false
/-- the frame of a comprehension -/
noncomputable def gOf (f : Fx) (scope : Scope) : Fx := ⟨relab f.cs scope, false⟩
theorem compOkB_of {f : Fx} {scope : Scope} {x : Str} {cs cells : List (Str × Nat)} (h : compOkB f scope x cs cells = true) : CompOk f (gOf f scope) scope x cs cells := by
  unfold compOkB at h
  cases e1 : isFn scope.kind with
  | false => rw [e1] at h; first | exact no_ h | cases h
  | true =>
  rw [e1] at h
  dsimp only at h
  cases e2 : namesB scope.names cells scope.names with
  | false => rw [e2] at h; first | exact no_ h | cases h
  | true =>
  rw [e2] at h
  dsimp only at h
  split at h
  · rename_i e3
    cases e4 : f.fn with
    | false => rw [e4] at h; first | exact no_ h | cases h
    | true =>
      rw [e4] at h
      have N := namesB_of e2
      exact { kind := by cases q : scope.kind <;> first | rfl | (rw [q] at e1; cases e1)
              cell := fun y hy => (N y hy).1
              names := fun y hy => (N y hy).2.1
              x := e3
              g := rfl
              fn := e4
              free := fun y hy => (N _ hy).2.2 rfl
              cs := csB_of h }
  · first | exact no_ h | cases h
theorem rvs_ints {as : List Addr} : ∀ {l : List Int} {us : List Value}, RVs as (l.map .int) us → IntsAre us l
  | [], _, .nil => .nil
  | x :: _, _, .cons ⟨t, e⟩ rs => by subst e; exact .cons x t (rvs_ints rs)
theorem wkInts {l : List Int} : WkO (.list (l.map .int)) (.il l) := fun _ _ _ ⟨vs, n, e, r⟩ => ⟨vs, n, e, rvs_ints r⟩
section
variable {prog : Program} {K : Params → Frag} {f g : Fx} {d : Nat} {σ σ₁ σ₂ σ' : S}
theorem EvE.wkV {e : Expr} {x y : AV} (h : EvE prog K f d e σ x σ') (w : WkV x y) : EvE prog K f d e σ y σ' := by
  intro c ok as os m s Q E R hq
  exact h c ok as os m s Q E R fun bs os' m' v s' rv R' => hq bs os' m' v s' (w _ _ rv) R'
/-- one turn that makes nothing -/
noncomputable def Turn1 (prog : Program) (K : Params → Frag) (g : Fx) (d : Nat) (x : Str) (cs : List (Str × Nat)) (ifs : List Expr) (elt : Expr) (ob : List AO) (k : Int) : Option Int → Prop
  | some z => ∃ τ₁ τ₂ y, EvIfs prog K g d ifs ⟨ob, [(x, some (.int k))], cs⟩ true τ₁ ∧ EvE prog K g d elt τ₁ y τ₂ ∧ WkV y (.int z) ∧ τ₂.objs = ob
  | none => ∃ τ₁, EvIfs prog K g d ifs ⟨ob, [(x, some (.int k))], cs⟩ false τ₁ ∧ τ₁.objs = ob
theorem CTurns.ints {x : Str} {cs : List (Str × Nat)} {ifs : List Expr} {elt : Expr} {Kp : List AO → Prop} {ob : List AO} {F : Int → Option Int} (hk : Kp ob) : ∀ {l : List Int}, (∀ k ∈ l, Turn1 prog K g d x cs ifs elt ob k (F k)) → CTurns prog K g d x cs ifs elt Kp (l.map .int) ob ((l.filterMap F).map .int) ob
  | [], _ => .nil hk
  | k :: l, h => by
    have h1 := h k (.head _)
    have ih := CTurns.ints (l := l) (F := F) hk fun k hk => h k (.tail _ hk)
    rw [List.filterMap_cons]
    cases e : F k with
    | none =>
      rw [e] at h1
      obtain ⟨τ₁, h2, h3⟩ := h1
      exact .skip hk h2 (by rw [h3]; exact ih)
    | some z =>
      rw [e] at h1
      obtain ⟨τ₁, τ₂, y, h2, h3, h4, h5⟩ := h1
      exact .keep hk h2 (h3.wkV h4) (by rw [h5]; exact ih)
theorem rangeAV_ints {a k : Int} : ∀ {n i : Nat}, rangeAV a k i n = ((List.range' i n).map fun (j : Nat) => a + (j : Int) * k).map .int
  | 0, _ => rfl
  | n + 1, i => by
    rw [List.range'_succ, List.map_cons, List.map_cons, rangeAV, rangeAV_ints]
/-- the ints of a range -/
noncomputable def rints (a k : Int) (n : Nat) : List Int := (List.range' 0 n).map fun (j : Nat) => a + (j : Int) * k
theorem EvE.compLI {p : CP} {i : Nat} {l : List Int} {F : Int → Option Int} {cs : List (Str × Nat)} (h : EvE prog K f d p.iter σ (.obj i) σ₁) (ho : σ₁.objs[i]? = some (.il l)) (co : compOkB f p.scope p.x cs σ₁.cells = true) (hc : σ₁.cells = σ.cells) (hz : l.length ≤ 60000)
    (ht : ∀ k ∈ l, Turn1 prog K (gOf f p.scope) d p.x cs p.ifs p.elt σ₁.objs k (F k)) (hi : plainIter p.iter = true) : EvE prog K f d p.e σ (.obj σ₁.objs.length) { σ₁ with objs := σ₁.objs ++ [.il (l.filterMap F)] } :=
  .compL h (.told ho rfl) (compOkB_of co) hc (CTurns.ints (Kp := fun ob => SrcL K ⟨ob, [], []⟩ (.obj i) (l.map .int)) (.told ho rfl) ht) (by rw [List.length_map]; exact hz) wkInts (plainIter_of hi)
theorem EvE.compRI {p : CP} {i n : Nat} {a b k : Int} {F : Int → Option Int} {cs : List (Str × Nat)} (h : EvE prog K f d p.iter σ (.obj i) σ₁) (ho : σ₁.objs[i]? = some (.rng a b k)) (hsm : Builtin.Range.small a b k = true) (hn : Builtin.Range.rangeSize a b k = (n : Int)) (co : compOkB f p.scope p.x cs σ₁.cells = true) (hc : σ₁.cells = σ.cells) (hz : n ≤ 60000)
    (ht : ∀ z ∈ rints a k n, Turn1 prog K (gOf f p.scope) d p.x cs p.ifs p.elt σ₁.objs z (F z)) (hi : plainIter p.iter = true) : EvE prog K f d p.e σ (.obj σ₁.objs.length) { σ₁ with objs := σ₁.objs ++ [.il ((rints a k n).filterMap F)] } := by
  refine .compR h ho hsm hn (compOkB_of co) hc ?_ hz wkInts (plainIter_of hi)
  rw [rangeAV_ints]
  exact CTurns.ints trivial ht
end
end Mine
/-! text M26 -/
open PySem PySem.W PyProof.Rows PySem.Spec PySem.Calls
set_option Elab.async false
set_option maxRecDepth 100000
namespace Mine
theorem execs_app (l rest : List Stmt) (env : Env) : execs (l ++ rest) env = (execs l env >>= fun f => match f with | .next => execs rest env | f => pure f) := by
  induction l with
  | nil => rfl
  | cons s l ih =>
    show (exec s env >>= fun f => match f with | .next => execs (l ++ rest) env | f => pure f) = ((exec s env >>= fun f => match f with | .next => execs l env | f => pure f) >>= _)
    rw [LawfulMonad.bind_assoc]
    congr 1
    funext f
    cases f with
    | next => exact ih
    | brk => rfl
    | cont => rfl
    | ret v => rfl
theorem EvB.app {prog : Program} {K : Params → Frag} {f : Fx} {d : Nat} {σ σ₁ σ₂ : S} {l rest : List Stmt} {o : Out} (h1 : EvB prog K f d l σ .next σ₁) (h2 : EvB prog K f d rest σ₁ o σ₂) : EvB prog K f d (l ++ rest) σ o σ₂ := by
  intro c ok as os m s Q E R hq
  rw [execs_app]
  refine wpAny_bind (h1 c ok as os m s _ E R fun bs os₁ m₁ v s₁ rv R₁ => ?_)
  obtain rfl : v = .next := rv
  refine h2 c ok _ os₁ m₁ s₁ Q E R₁ fun bs₂ os₂ m₂ v s₂ rv R₂ => ?_
  rw [List.append_assoc] at rv R₂
  exact hq _ _ _ _ _ rv R₂
end Mine
/-! text HA -/
open PySem PySem.W PyProof.Rows
set_option Elab.async false
set_option maxRecDepth 100000
set_option maxHeartbeats 0
namespace Mine
abbrev pw : Program := PySem.Challenge.pw_im0095_04

/-! the run of the top, over trees -/
noncomputable def topG (ok : Thread → Bool) (st : SharedT → Thread → Option (SharedT × Thread)) : Nat → SharedT → Thread → Option SharedT
  | 0, _, _ => none
  | n + 1, s, t => match through t with
    | true => some s
    | false => match ok t with
      | false => none
      | true => match st s t with
        | some (s', t') => topG ok st n s' t'
        | none => none
noncomputable def goG (ok : Thread → Bool) (st : SharedT → Thread → Option (SharedT × Thread)) : Nat → SharedT → Thread → Option (SharedT × Thread)
  | 0, s, t => some (s, t)
  | n + 1, s, t => match through t with
    | true => none
    | false => match ok t with
      | false => none
      | true => match st s t with
        | some (s', t') => goG ok st n s' t'
        | none => none
noncomputable def segG (ok : Thread → Bool) (st : SharedT → Thread → Option (SharedT × Thread)) (b : Nat) : Nat → SharedT → Thread → Option (Flow × SharedT × Code × Pos)
  | 0, _, _ => none
  | n + 1, s, t => match endAt b t with
    | some f => some (f, s, t.code, t.pos)
    | none => match ok t with
      | false => none
      | true => match st s t with
        | some (s', t') => segG ok st b n s' t'
        | none => none
section
variable {tb : String → Option Builtin} {p : Program} {w : World} {n₀ : Nat} {ann : Option Value}
theorem topG_of : ∀ {n : Nat} {s s' : SharedT} {t : Thread}, topG (stepOk n₀ ann) (stepT (denote tb) p w) n s t = some s' → topRun tb p w n₀ ann n s.abs t = some s'.abs
  | 0, _, _, _, h => by cases h
  | n + 1, s, s', t, h => by
    unfold topG at h
    unfold topRun
    cases he : through t with
    | true => rw [he] at h; cases h; rfl
    | false =>
      rw [he] at h
      cases hk : stepOk n₀ ann t with
      | false => rw [hk] at h; cases h
      | true =>
        rw [hk] at h
        cases hs : stepT (denote tb) p w s t with
        | none => rw [hs] at h; cases h
        | some r => obtain ⟨s₂, t₂⟩ := r; rw [hs] at h; rw [stepT_spec hs]; exact topG_of h
theorem goG_of : ∀ {n : Nat} {s s' : SharedT} {t t' : Thread}, goG (stepOk n₀ ann) (stepT (denote tb) p w) n s t = some (s', t') → topGo tb p w n₀ ann n s.abs t = some (s'.abs, t')
  | 0, _, _, _, _, h => by cases h; rfl
  | n + 1, s, s', t, t', h => by
    unfold goG at h
    unfold topGo
    cases he : through t with
    | true => rw [he] at h; cases h
    | false =>
      rw [he] at h
      cases hk : stepOk n₀ ann t with
      | false => rw [hk] at h; cases h
      | true =>
        rw [hk] at h
        cases hs : stepT (denote tb) p w s t with
        | none => rw [hs] at h; cases h
        | some r => obtain ⟨s₂, t₂⟩ := r; rw [hs] at h; rw [stepT_spec hs]; exact goG_of h
theorem segG_eq (b : Nat) : ∀ (n : Nat) (s : SharedT) (t : Thread), segG (stepOk n₀ ann) (stepT (denote tb) p w) b n s t = segRunT tb p w n₀ ann b n s t
  | 0, _, _ => rfl
  | n + 1, s, t => by
    unfold segG segRunT
    cases endAt b t with
    | some f => rfl
    | none => cases stepOk n₀ ann t with
      | false => rfl
      | true => cases stepT (denote tb) p w s t with
        | none => rfl
        | some r => exact segG_eq b n r.1 r.2
theorem body_app {env : Env} {B : List Frame} (hB : splitAtGen B = none) {n N : Nat} {s s' r : Shared} {l rest : List Stmt} {c : Code} {pos p' : Pos} (h : segRun tb p w n₀ ann B.length n s (piecesOf l env c pos B) = some (.next, s', c, p'))
    (k : topRun tb p w n₀ ann N s' (restOf rest env c p' B) = some r) : topRun tb p w n₀ ann (n + N) s (restOf (l ++ rest) env c pos B) = some r := by
  obtain ⟨a, ha, hN⟩ := seg_top (res := id) (K' := fun f => match f with | .next => (execs rest env).wrap doneF (leaveH env) id id | f => doneF f) (H' := leaveH env) (B := B) hB n s (piecesOf l env c pos B)
    ⟨(execs l env).wrap (fun f => match f with | .next => (execs rest env).wrap doneF (leaveH env) id id | f => doneF f) (leaveH env) id id, c, pos, B⟩ _ _ _ _ ⟨rfl, rfl, .inl ⟨rfl, rfl, _, rfl, rfl⟩⟩ h
  obtain rfl : a = .next := ha
  have := hN N r k
  unfold restOf
  rw [execs_app_wrap]
  exact this
theorem body_start {env : Env} {B : List Frame} (hB : splitAtGen B = none) {n N : Nat} {s s' r : Shared} {b : List Stmt} {c : Code} {pos p' : Pos} (h : segRun tb p w n₀ ann B.length n s (blockOf b env c pos B) = some (.next, s', c, p'))
    (k : topRun tb p w n₀ ann N s' (restOf b env c p' B) = some r) : topRun tb p w n₀ ann (n + N) s ⟨denote tb (.body b env), c, pos, B⟩ = some r := by
  obtain ⟨a, ha, hN⟩ := seg_top (res := fun _ : Unit => Flow.next) (K' := fun _ => (execs b env).wrap doneF (leaveH env) id id) (H' := Sem.raise) (B := B) hB n s (blockOf b env c pos B)
    ⟨(blockStart b env).wrap (fun _ => (execs b env).wrap doneF (leaveH env) id id) .raise id id, c, pos, B⟩ _ _ _ _ ⟨rfl, rfl, .inl ⟨rfl, rfl, _, rfl, rfl⟩⟩ h
  rw [body_wrap]
  exact hN N r k
end

/-! the twins of the step -/
noncomputable def dn : Code → Sem Fin := PySem.W.Fast.tw11892475500146522536 PySem.W.Fast.tw14364793385576792824
noncomputable def okT : Thread → Bool := PySem.W.Fast.tw6613529449190102663 11 (some (.ref 6))
noncomputable def stT (w : World) : SharedT → Thread → Option (SharedT × Thread) := PySem.W.Fast.tw10156331382660048174 dn pw w
theorem dn_eq : denote treeTable = dn := by unfold dn; rw [PySem.W.Fast.te11892475500146522536, PySem.W.Fast.te14364793385576792824]
theorem okT_eq : stepOk 11 (some (.ref 6)) = okT := by unfold okT; rw [PySem.W.Fast.te6613529449190102663]
theorem stT_eq (w : World) : stepT (denote treeTable) pw w = stT w := by unfold stT; rw [PySem.W.Fast.te10156331382660048174, dn_eq]

/-! the state at the class's block -/
noncomputable def every2 : List Obj → List Obj
  | [] => []
  | [a] => [a]
  | a :: _ :: r => a :: every2 r
noncomputable def btL : Nat → List Obj → BT
  | 0, _ => .nil
  | _ + 1, [] => .nil
  | k + 1, o :: r => .node o (btL k (every2 r)) (btL k (every2 r.tail))
noncomputable def S0 (w : World) (os : OsState) : SharedT := ⟨btL 8 (boot_heap w.params).objs.toList, 11, (boot_heap w.params).life, #[], boot_drawn, boot_toks, os⟩
theorem S0_abs (w : World) (os : OsState) : (S0 w os).abs = ⟨boot_heap w.params, #[], boot_drawn, boot_toks, os⟩ := by kernel_rfl
noncomputable def Pd (w : World) (os : OsState) : SharedT × Thread := (goG okT (stT w) 109 (S0 w os) (topStub pw)).getD (S0 w os, topStub pw)
noncomputable def Bc (w : World) (os : OsState) : List Frame := (Pd w os).2.stack
noncomputable def clsBody : List Stmt := match pw.main.body with
  | _ :: _ :: .ClassDef _ _ _ b _ _ _ _ _ _ _ :: _ => b
  | _ => []
noncomputable def clsScope : Scope := match pw.main.body with
  | _ :: _ :: .ClassDef _ _ _ _ _ _ sc _ _ _ _ :: _ => sc
  | _ => default
noncomputable def clsPos : Pos := match pw.main.body with
  | _ :: _ :: .ClassDef _ _ _ _ _ _ _ _ _ _ p :: _ => p
  | _ => default
noncomputable def envC : Env := { scope := clsScope, locals := 24, globals := 3, cells := [], qual := Str.ofString "MPU.", func := none, code := .ref 27, frame := some 28, builtins := 0 }
noncomputable def codeC : Code := .body clsBody envC
theorem pro (w : World) (os : OsState) : goG okT (stT w) 109 (S0 w os) (topStub pw) = some ((Pd w os).1, ⟨dn (.body clsBody envC), codeC, clsPos, Bc w os⟩) := by kernel_rfl
theorem Bc_split (w : World) (os : OsState) : splitAtGen (Bc w os) = none := by kernel_rfl
theorem Bc_len (w : World) (os : OsState) : (Bc w os).length = 2 := by kernel_rfl
end Mine
/-! text HT -/
open PySem PySem.W PyProof.Rows
set_option Elab.async false
set_option maxRecDepth 100000
set_option maxHeartbeats 0
namespace Mine
/-! the symbol tables are whole: in pieces -/
section
open TablesWhole
theorem wSs_cons {α : Type} (A : Alg α) (top : Scope) (cx : TablesWhole.Ctx) (sc : Scope) (s : Stmt) (l : List Stmt) : wSs A top cx sc (s :: l) = A.both (wS A top cx sc s) (wSs A top cx sc l) := by kernel_rfl
theorem wEs_cons {α : Type} (A : Alg α) (cx : TablesWhole.Ctx) (sc : Scope) (h : Option Scope) (s : Expr) (l : List Expr) : wEs A cx sc h (s :: l) = A.both (wE A cx sc h s) (wEs A cx sc h l) := by kernel_rfl
theorem wS_assign {α : Type} (A : Alg α) (top : Scope) (cx : TablesWhole.Ctx) (sc : Scope) (ts : List Expr) (v : Expr) (p : Pos) : wS A top cx sc (.Assign ts v p) = A.both (wE A cx sc none v) (wTs A cx sc none ts) := by kernel_rfl
theorem wE_list {α : Type} (A : Alg α) (cx : TablesWhole.Ctx) (sc : Scope) (h : Option Scope) (es : List Expr) (p : Pos) : wE A cx sc h (.List es p) = wEs A cx sc h es := by kernel_rfl
theorem wE_name (cx : TablesWhole.Ctx) (sc : Scope) (h : Option Scope) (id : Str) (p : Pos) (hs : (id == Str.ofString "super") = false) : wE holds cx sc h (.Name id p) = sc.bears id := by
  have e : wE holds cx sc h (.Name id p) = if (id == Str.ofString "super" && sc.functionLike) = true then (sc.bears id && sc.bears (Str.ofString "__class__")) else sc.bears id := by kernel_rfl
  rw [e, hs]
  rfl
theorem wss_take {α : Type} (A : Alg α) (top : Scope) (cx : TablesWhole.Ctx) (sc : Scope) (p : α → Prop) (h0 : p A.unit) (h1 : ∀ a b, p a → p b → p (A.both a b)) : ∀ (n : Nat) (l : List Stmt), (∀ s, s ∈ l.take n → p (wS A top cx sc s)) → p (wSs A top cx sc (l.drop n)) → p (wSs A top cx sc l)
  | 0, _, _, h => h
  | _ + 1, [], _, h => h
  | n + 1, s :: l, hs, h => by
    rw [wSs_cons]
    exact h1 _ _ (hs s (by rw [List.take_succ_cons]; exact List.mem_cons_self)) (wss_take A top cx sc p h0 h1 n l (fun t ht => hs t (by rw [List.take_succ_cons]; exact List.mem_cons_of_mem _ ht)) h)
theorem wss_all {top : Scope} {cx : TablesWhole.Ctx} {sc : Scope} : ∀ {l : List Stmt}, wSs holds top cx sc l = true → ∀ s ∈ l, wS holds top cx sc s = true
  | [], _, _, h => nomatch h
  | s :: l, h, t, ht => by
    rw [wSs_cons] at h
    have h := Bool.and_eq_true_iff.mp h
    rcases List.mem_cons.mp ht with rfl | ht
    · exact h.1
    · exact wss_all h.2 t ht
theorem wss_td {top : Scope} {cx : TablesWhole.Ctx} {sc : Scope} (n : Nat) {l : List Stmt} (h1 : wSs holds top cx sc (l.take n) = true) (h2 : wSs holds top cx sc (l.drop n) = true) : wSs holds top cx sc l = true :=
  wss_take holds top cx sc (· = true) rfl (fun _ _ a b => Bool.and_eq_true_iff.mpr ⟨a, b⟩) n l (wss_all h1) h2
theorem wsg_all {top : Scope} {cx : TablesWhole.Ctx} {sc : Scope} : ∀ {l : List Stmt}, wSs gather top cx sc l = [] → ∀ s ∈ l, wS gather top cx sc s = []
  | [], _, _, h => nomatch h
  | s :: l, h, t, ht => by
    rw [wSs_cons] at h
    have h := List.append_eq_nil_iff.mp h
    rcases List.mem_cons.mp ht with rfl | ht
    · exact h.1
    · exact wsg_all h.2 t ht
theorem wsg_td {top : Scope} {cx : TablesWhole.Ctx} {sc : Scope} (n : Nat) {l : List Stmt} (h1 : wSs gather top cx sc (l.take n) = []) (h2 : wSs gather top cx sc (l.drop n) = []) : wSs gather top cx sc l = [] :=
  wss_take gather top cx sc (· = []) rfl (fun _ _ a b => List.append_eq_nil_iff.mpr ⟨a, b⟩) n l (wsg_all h1) h2
theorem tw_of {p : Program} {cx : TablesWhole.Ctx} (hg : wSs gather p.main.scope ⟨p.main.scope, [], [], [], none⟩ p.main.scope p.main.body = []) (hc : cx = ⟨p.main.scope, [], [], [], none⟩) (ht : noTwice p.main.scope = true) (hs : wSs holds p.main.scope cx p.main.scope p.main.body = true) (hm : p.modules = []) (hp : p.parses = []) (hh : p.harvested = []) : p.tablesWhole = true := by
  subst hc
  show (TablesWhole.wModule holds p.main && (Alg.all holds (p.modules.map fun (_, _, m) => wModule holds m) && (Alg.all holds (p.parses.map (wParse holds)) && (Alg.all holds (p.harvested.map (wParse holds)) && true)))) = true
  rw [hm, hp, hh]
  have e : wModule holds p.main = true := by
    unfold wModule
    rw [hg]
    show (true && (noTwice p.main.scope && (wSs holds p.main.scope ⟨p.main.scope, [], [], [], none⟩ p.main.scope p.main.body && true))) = true
    rw [ht, hs]
    rfl
  rw [e]
  rfl
theorem wS_cls {α : Type} (A : Alg α) (top : Scope) (cx : TablesWhole.Ctx) (sc : Scope) (n : Str) (b : List Expr) (k : List Keyword) (body : List Stmt) (ds : List Expr) (own : Scope) (bind : Str) (x : List Str) (pos : Pos) : wS A top cx sc (.ClassDef n b k body ds [] own none bind x pos) = A.both (wClassHead A cx sc b k ds [] own none bind pos (declSs true body)) (wSs A top ⟨own, declSs false body, declSs true body, cx.encl, none⟩ own body) := by kernel_rfl
theorem all_c {a : Bool} {l : List Bool} (h : a = true) (t : Alg.all holds l = true) : Alg.all holds (a :: l) = true := Bool.and_eq_true_iff.mpr ⟨h, t⟩
theorem chk {w : String} {sc : Scope} {n : Str} {b : Bool} (h : b = true) : holds.check w sc n b = true := h
theorem all_n : Alg.all holds [] = true := rfl
/-- no name twice -/
noncomputable def hasS (x : Str) : List (Str × NameKind) → Bool
  | [] => false
  | (y, _) :: r => match Fast.sEq y x with
    | true => true
    | false => hasS x r
noncomputable def ndS : List (Str × NameKind) → Bool
  | [] => true
  | (y, _) :: r => match hasS y r with
    | true => false
    | false => ndS r
theorem hasS_of {x : Str} : ∀ {l : List (Str × NameKind)}, hasS x l = true → (l.lookup x).isSome = true
  | [], h => nomatch h
  | (y, k) :: r, h => by
    rw [List.lookup_cons]
    cases e : x == y with
    | true => rfl
    | false =>
      refine hasS_of (l := r) ?_
      unfold hasS at h
      cases q : Fast.sEq y x with
      | true => have := Fast.sEq_iff.mp q; subst this; simp at e
      | false => rw [q] at h; exact h
theorem hasS_no {x : Str} : ∀ {l : List (Str × NameKind)}, hasS x l = false → ∀ p ∈ l, p.1 ≠ x
  | [], _, _, hp => nomatch hp
  | (y, k) :: r, h, p, hp => by
    unfold hasS at h
    cases q : Fast.sEq y x with
    | true => rw [q] at h; exact nomatch h
    | false =>
      rw [q] at h
      rcases List.mem_cons.mp hp with rfl | hp
      · intro e
        rw [Fast.sEq_iff.mpr e] at q
        exact nomatch q
      · exact hasS_no h p hp
theorem ndS_f : ∀ {l : List (Str × NameKind)}, ndS l = true → ∀ p ∈ l, l.filter (·.1 == p.1) = [p]
  | [], _, _, hp => nomatch hp
  | (y, k) :: r, h, p, hp => by
    unfold ndS at h
    cases q : hasS y r with
    | true => rw [q] at h; exact nomatch h
    | false =>
      rw [q] at h
      have hn := hasS_no q
      rcases List.mem_cons.mp hp with rfl | hp
      · rw [List.filter_cons_of_pos (by simp)]
        rw [List.filter_eq_nil_iff.mpr fun a ha => by simpa using hn a ha]
      · rw [List.filter_cons_of_neg (by simpa using fun e => hn p hp e.symm)]
        exact ndS_f h p hp
theorem noTwice_of {sc : Scope} (h : ndS sc.names = true) : noTwice sc = true := by
  unfold noTwice
  rw [List.all_eq_true]
  intro p hp
  show (match sc.names.filter (·.1 == p.1) with | [_] => true | [(_, a), (_, b)] => sc.kind == .class && a != .free && b == .free | _ => false) = true
  rw [ndS_f h p hp]
/-- a list of names -/
noncomputable def namesF (sc : Scope) : List Expr → Bool
  | [] => true
  | .Name id _ :: r => match Fast.sEq id (Str.ofString "super") with
    | true => false
    | false => match hasS id sc.names with
      | true => namesF sc r
      | false => false
  | _ :: _ => false
theorem namesF_of {cx : TablesWhole.Ctx} {sc : Scope} {hold : Option Scope} : ∀ {l : List Expr}, namesF sc l = true → wEs holds cx sc hold l = true
  | [], _ => rfl
  | e :: r, h => by
    cases e with
    | Name id pos =>
      unfold namesF at h
      cases q : Fast.sEq id (Str.ofString "super") with
      | true => rw [q] at h; exact nomatch h
      | false =>
        rw [q] at h
        dsimp only at h
        cases q2 : hasS id sc.names with
        | false => rw [q2] at h; exact nomatch h
        | true =>
          rw [q2] at h
          rw [wEs_cons]
          refine Bool.and_eq_true_iff.mpr ⟨?_, namesF_of h⟩
          rw [wE_name _ _ _ _ _ (by rw [beq_eq_false_iff_ne]; intro e; rw [Fast.sEq_iff.mpr e] at q; exact nomatch q)]
          exact hasS_of q2
    | _ => exact nomatch h
theorem wS_asg {top : Scope} {cx : TablesWhole.Ctx} {sc : Scope} {ts es : List Expr} {p p2 : Pos} (h1 : wEs holds cx sc none es = true) (h2 : wTs holds cx sc none ts = true) : wS holds top cx sc (.Assign ts (.List es p2) p) = true := by
  rw [wS_assign, wE_list]
  exact Bool.and_eq_true_iff.mpr ⟨h1, h2⟩
theorem wss_st {top : Scope} {cx : TablesWhole.Ctx} {sc : Scope} {l : List Stmt} (a b : Nat) (e : a + 16 = b) (h1 : wSs holds top cx sc ((l.drop a).take 16) = true) (h2 : wSs holds top cx sc (l.drop b) = true) : wSs holds top cx sc (l.drop a) = true := by
  refine wss_td 16 h1 ?_
  rw [List.drop_drop, e]
  exact h2
theorem wsg_st {top : Scope} {cx : TablesWhole.Ctx} {sc : Scope} {l : List Stmt} (a b : Nat) (e : a + 16 = b) (h1 : wSs gather top cx sc ((l.drop a).take 16) = []) (h2 : wSs gather top cx sc (l.drop b) = []) : wSs gather top cx sc (l.drop a) = [] := by
  refine wsg_td 16 h1 ?_
  rw [List.drop_drop, e]
  exact h2
theorem wss_s6 {top : Scope} {cx : TablesWhole.Ctx} {sc : Scope} {l : List Stmt} (a b : Nat) (e : a + 6 = b) (h1 : wSs holds top cx sc ((l.drop a).take 6) = true) (h2 : wSs holds top cx sc (l.drop b) = true) : wSs holds top cx sc (l.drop a) = true := by
  refine wss_td 6 h1 ?_
  rw [List.drop_drop, e]
  exact h2
theorem wss_0 {top : Scope} {cx : TablesWhole.Ctx} {sc : Scope} {l : List Stmt} (h : wSs holds top cx sc (l.drop 0) = true) : wSs holds top cx sc l = true := h
theorem wsg_0 {top : Scope} {cx : TablesWhole.Ctx} {sc : Scope} {l : List Stmt} (h : wSs gather top cx sc (l.drop 0) = []) : wSs gather top cx sc l = [] := h
theorem wss_e {top : Scope} {cx : TablesWhole.Ctx} {sc : Scope} {l : List Stmt} (h : l = []) : wSs holds top cx sc l = true := by subst h; rfl
theorem wsg_e {top : Scope} {cx : TablesWhole.Ctx} {sc : Scope} {l : List Stmt} (h : l = []) : wSs gather top cx sc l = [] := by subst h; rfl
theorem wS_clsH {top : Scope} {cx cxc : TablesWhole.Ctx} {sc : Scope} {n : Str} {b : List Expr} {k : List Keyword} {body : List Stmt} {ds : List Expr} {own : Scope} {bind : Str} {x : List Str} {pos : Pos} (he : cx.encl = []) (hc : cxc = ⟨own, declSs false body, declSs true body, [], none⟩) (h1 : wClassHead holds cx sc b k ds [] own none bind pos (declSs true body) = true) (h2 : wSs holds top cxc own body = true) : wS holds top cx sc (.ClassDef n b k body ds [] own none bind x pos) = true := by
  subst hc
  rw [wS_cls, he]
  exact Bool.and_eq_true_iff.mpr ⟨h1, h2⟩
theorem wS_clsG {top : Scope} {cx cxc : TablesWhole.Ctx} {sc : Scope} {n : Str} {b : List Expr} {k : List Keyword} {body : List Stmt} {ds : List Expr} {own : Scope} {bind : Str} {x : List Str} {pos : Pos} (he : cx.encl = []) (hc : cxc = ⟨own, declSs false body, declSs true body, [], none⟩) (h1 : wClassHead gather cx sc b k ds [] own none bind pos (declSs true body) = []) (h2 : wSs gather top cxc own body = []) : wS gather top cx sc (.ClassDef n b k body ds [] own none bind x pos) = [] := by
  subst hc
  rw [wS_cls, he]
  exact List.append_eq_nil_iff.mpr ⟨h1, h2⟩
theorem wss_cons {top : Scope} {cx : TablesWhole.Ctx} {sc : Scope} {s : Stmt} {l : List Stmt} (h1 : wS holds top cx sc s = true) (h2 : wSs holds top cx sc l = true) : wSs holds top cx sc (s :: l) = true := by
  rw [wSs_cons]
  exact Bool.and_eq_true_iff.mpr ⟨h1, h2⟩
theorem wsg_cons {top : Scope} {cx : TablesWhole.Ctx} {sc : Scope} {s : Stmt} {l : List Stmt} (h1 : wS gather top cx sc s = []) (h2 : wSs gather top cx sc l = []) : wSs gather top cx sc (s :: l) = [] := by
  rw [wSs_cons]
  exact List.append_eq_nil_iff.mpr ⟨h1, h2⟩
end
noncomputable def cxM : TablesWhole.Ctx := ⟨pw.main.scope, [], [], [], none⟩
noncomputable def cxC : TablesWhole.Ctx := ⟨clsScope, TablesWhole.declSs false clsBody, TablesWhole.declSs true clsBody, [], none⟩
noncomputable def clsSt : Stmt := match pw.main.body with
  | _ :: _ :: s :: _ => s
  | _ => .Pass default
noncomputable def cdN : Stmt → Str
  | .ClassDef n .. => n
  | _ => Str.ofString ""
noncomputable def cdB : Stmt → List Expr
  | .ClassDef _ b .. => b
  | _ => []
noncomputable def cdK : Stmt → List Keyword
  | .ClassDef _ _ k .. => k
  | _ => []
noncomputable def cdD : Stmt → List Expr
  | .ClassDef _ _ _ _ d .. => d
  | _ => []
noncomputable def cdBind : Stmt → Str
  | .ClassDef _ _ _ _ _ _ _ _ b _ _ => b
  | _ => Str.ofString ""
noncomputable def cdX (s : Stmt) : List Str := match s with
  | .ClassDef _ _ _ _ _ _ _ _ _ x _ => x
  | _ => []
open TablesWhole in
theorem wch_of {cx : TablesWhole.Ctx} {sc : Scope} {b : List Expr} {k : List Keyword} {ds : List Expr} {own : Scope} {bind : Str} {pos : Pos} {gl : List Str} (h1 : wEs holds cx sc none ds = true) (h2 : Alg.bind holds cx sc bind (some pos) = true) (h3 : Alg.enterFrom holds cx.encl none gl sc own = true) (h4 : wEs holds cx sc none b = true) (h5 : wKs holds cx sc none k = true) : wClassHead holds cx sc b k ds [] own none bind pos gl = true := by
  unfold wClassHead
  exact all_c h1 (all_c h2 (all_c (all_c h3 (all_c h4 (all_c h5 all_n))) all_n))
theorem of_stH {top : Scope} {cx : TablesWhole.Ctx} {sc : Scope} {s t : Stmt} (e : s = t) (h : TablesWhole.wS TablesWhole.holds top cx sc t = true) : TablesWhole.wS TablesWhole.holds top cx sc s = true := e ▸ h
theorem of_stG {top : Scope} {cx : TablesWhole.Ctx} {sc : Scope} {s t : Stmt} (e : s = t) (h : TablesWhole.wS TablesWhole.gather top cx sc t = []) : TablesWhole.wS TablesWhole.gather top cx sc s = [] := e ▸ h
theorem of_lH {top : Scope} {cx : TablesWhole.Ctx} {sc : Scope} {s t : List Stmt} (e : s = t) (h : TablesWhole.wSs TablesWhole.holds top cx sc t = true) : TablesWhole.wSs TablesWhole.holds top cx sc s = true := e ▸ h
theorem of_lG {top : Scope} {cx : TablesWhole.Ctx} {sc : Scope} {s t : List Stmt} (e : s = t) (h : TablesWhole.wSs TablesWhole.gather top cx sc t = []) : TablesWhole.wSs TablesWhole.gather top cx sc s = [] := e ▸ h
theorem clsSt_eq : clsSt = .ClassDef (cdN clsSt) (cdB clsSt) (cdK clsSt) clsBody (cdD clsSt) [] clsScope none (cdBind clsSt) (cdX clsSt) clsPos := by kernel_rfl
noncomputable def asT : Stmt → List Expr
  | .Assign ts _ _ => ts
  | _ => []
noncomputable def asE : Stmt → List Expr
  | .Assign _ (.List es _) _ => es
  | _ => []
noncomputable def asP2 : Stmt → Pos
  | .Assign _ (.List _ p) _ => p
  | _ => default
noncomputable def asP : Stmt → Pos
  | .Assign _ _ p => p
  | _ => default
noncomputable def insSt : Stmt := match clsBody.drop 214 with
  | s :: _ => s
  | [] => .Pass default
theorem ins_eq : insSt = .Assign (asT insSt) (.List (asE insSt) (asP2 insSt)) (asP insSt) := by kernel_rfl
theorem ins_n : namesF clsScope (asE insSt) = true := by kernel_rfl
theorem ins_t : TablesWhole.wTs TablesWhole.holds cxC clsScope none (asT insSt) = true := by kernel_rfl
theorem ins_l : clsBody.drop 214 = insSt :: clsBody.drop 215 := by kernel_rfl
theorem ins_r : TablesWhole.wSs TablesWhole.holds pw.main.scope cxC clsScope (clsBody.drop 215) = true := by kernel_rfl
theorem insH : TablesWhole.wSs TablesWhole.holds pw.main.scope cxC clsScope (clsBody.drop 214) = true := of_lH ins_l (wss_cons (of_stH ins_eq (wS_asg (namesF_of ins_n) ins_t)) ins_r)
theorem tc0 : TablesWhole.wSs TablesWhole.holds pw.main.scope cxC clsScope ((clsBody.drop 0).take 16) = true := by kernel_rfl
theorem tg0 : TablesWhole.wSs TablesWhole.gather pw.main.scope cxC clsScope ((clsBody.drop 0).take 16) = [] := by kernel_rfl
theorem tc1 : TablesWhole.wSs TablesWhole.holds pw.main.scope cxC clsScope ((clsBody.drop 16).take 16) = true := by kernel_rfl
theorem tg1 : TablesWhole.wSs TablesWhole.gather pw.main.scope cxC clsScope ((clsBody.drop 16).take 16) = [] := by kernel_rfl
theorem tc2 : TablesWhole.wSs TablesWhole.holds pw.main.scope cxC clsScope ((clsBody.drop 32).take 16) = true := by kernel_rfl
theorem tg2 : TablesWhole.wSs TablesWhole.gather pw.main.scope cxC clsScope ((clsBody.drop 32).take 16) = [] := by kernel_rfl
theorem tc3 : TablesWhole.wSs TablesWhole.holds pw.main.scope cxC clsScope ((clsBody.drop 48).take 16) = true := by kernel_rfl
theorem tg3 : TablesWhole.wSs TablesWhole.gather pw.main.scope cxC clsScope ((clsBody.drop 48).take 16) = [] := by kernel_rfl
theorem tc4 : TablesWhole.wSs TablesWhole.holds pw.main.scope cxC clsScope ((clsBody.drop 64).take 16) = true := by kernel_rfl
theorem tg4 : TablesWhole.wSs TablesWhole.gather pw.main.scope cxC clsScope ((clsBody.drop 64).take 16) = [] := by kernel_rfl
theorem tc5 : TablesWhole.wSs TablesWhole.holds pw.main.scope cxC clsScope ((clsBody.drop 80).take 16) = true := by kernel_rfl
theorem tg5 : TablesWhole.wSs TablesWhole.gather pw.main.scope cxC clsScope ((clsBody.drop 80).take 16) = [] := by kernel_rfl
theorem tc6 : TablesWhole.wSs TablesWhole.holds pw.main.scope cxC clsScope ((clsBody.drop 96).take 16) = true := by kernel_rfl
theorem tg6 : TablesWhole.wSs TablesWhole.gather pw.main.scope cxC clsScope ((clsBody.drop 96).take 16) = [] := by kernel_rfl
theorem tc7 : TablesWhole.wSs TablesWhole.holds pw.main.scope cxC clsScope ((clsBody.drop 112).take 16) = true := by kernel_rfl
theorem tg7 : TablesWhole.wSs TablesWhole.gather pw.main.scope cxC clsScope ((clsBody.drop 112).take 16) = [] := by kernel_rfl
theorem tc8 : TablesWhole.wSs TablesWhole.holds pw.main.scope cxC clsScope ((clsBody.drop 128).take 16) = true := by kernel_rfl
theorem tg8 : TablesWhole.wSs TablesWhole.gather pw.main.scope cxC clsScope ((clsBody.drop 128).take 16) = [] := by kernel_rfl
theorem tc9 : TablesWhole.wSs TablesWhole.holds pw.main.scope cxC clsScope ((clsBody.drop 144).take 16) = true := by kernel_rfl
theorem tg9 : TablesWhole.wSs TablesWhole.gather pw.main.scope cxC clsScope ((clsBody.drop 144).take 16) = [] := by kernel_rfl
theorem tc10 : TablesWhole.wSs TablesWhole.holds pw.main.scope cxC clsScope ((clsBody.drop 160).take 16) = true := by kernel_rfl
theorem tg10 : TablesWhole.wSs TablesWhole.gather pw.main.scope cxC clsScope ((clsBody.drop 160).take 16) = [] := by kernel_rfl
theorem tc11 : TablesWhole.wSs TablesWhole.holds pw.main.scope cxC clsScope ((clsBody.drop 176).take 16) = true := by kernel_rfl
theorem tg11 : TablesWhole.wSs TablesWhole.gather pw.main.scope cxC clsScope ((clsBody.drop 176).take 16) = [] := by kernel_rfl
theorem tc12 : TablesWhole.wSs TablesWhole.holds pw.main.scope cxC clsScope ((clsBody.drop 192).take 16) = true := by kernel_rfl
theorem tg12 : TablesWhole.wSs TablesWhole.gather pw.main.scope cxC clsScope ((clsBody.drop 192).take 16) = [] := by kernel_rfl
theorem tcY : TablesWhole.wSs TablesWhole.holds pw.main.scope cxC clsScope ((clsBody.drop 208).take 6) = true := by kernel_rfl
theorem tcZ : TablesWhole.wSs TablesWhole.holds pw.main.scope cxC clsScope (clsBody.drop 208) = true := wss_s6 208 214 rfl tcY insH
theorem tgZ : TablesWhole.wSs TablesWhole.gather pw.main.scope cxC clsScope (clsBody.drop 208) = [] := by kernel_rfl
theorem tcA : TablesWhole.wSs TablesWhole.holds pw.main.scope cxC clsScope clsBody = true := wss_0 (wss_st 0 16 rfl tc0 (wss_st 16 32 rfl tc1 (wss_st 32 48 rfl tc2 (wss_st 48 64 rfl tc3 (wss_st 64 80 rfl tc4 (wss_st 80 96 rfl tc5 (wss_st 96 112 rfl tc6 (wss_st 112 128 rfl tc7 (wss_st 128 144 rfl tc8 (wss_st 144 160 rfl tc9 (wss_st 160 176 rfl tc10 (wss_st 176 192 rfl tc11 (wss_st 192 208 rfl tc12 tcZ)))))))))))))
theorem tgA : TablesWhole.wSs TablesWhole.gather pw.main.scope cxC clsScope clsBody = [] := wsg_0 (wsg_st 0 16 rfl tg0 (wsg_st 16 32 rfl tg1 (wsg_st 32 48 rfl tg2 (wsg_st 48 64 rfl tg3 (wsg_st 64 80 rfl tg4 (wsg_st 80 96 rfl tg5 (wsg_st 96 112 rfl tg6 (wsg_st 112 128 rfl tg7 (wsg_st 128 144 rfl tg8 (wsg_st 144 160 rfl tg9 (wsg_st 160 176 rfl tg10 (wsg_st 176 192 rfl tg11 (wsg_st 192 208 rfl tg12 tgZ)))))))))))))
theorem cls_nd : ndS clsScope.names = true := by kernel_rfl
open TablesWhole in
theorem thE : Alg.enterFrom holds cxM.encl none (declSs true clsBody) pw.main.scope clsScope = true := by
  unfold Alg.enterFrom
  refine all_c rfl (all_c (chk (noTwice_of cls_nd)) ?_)
  kernel_rfl
open TablesWhole in
theorem thd : wClassHead holds cxM pw.main.scope (cdB clsSt) (cdK clsSt) (cdD clsSt) [] clsScope none (cdBind clsSt) clsPos (declSs true clsBody) = true := by
  exact wch_of (by kernel_rfl) (by kernel_rfl) thE (by kernel_rfl) (by kernel_rfl)
theorem tgd : TablesWhole.wClassHead TablesWhole.gather cxM pw.main.scope (cdB clsSt) (cdK clsSt) (cdD clsSt) [] clsScope none (cdBind clsSt) clsPos (TablesWhole.declSs true clsBody) = [] := by kernel_rfl
theorem tcS : TablesWhole.wS TablesWhole.holds pw.main.scope cxM pw.main.scope clsSt = true := of_stH clsSt_eq (wS_clsH rfl rfl thd tcA)
theorem tgS : TablesWhole.wS TablesWhole.gather pw.main.scope cxM pw.main.scope clsSt = [] := of_stG clsSt_eq (wS_clsG rfl rfl tgd tgA)
theorem tb0 : TablesWhole.wSs TablesWhole.holds pw.main.scope cxM pw.main.scope (pw.main.body.take 2) = true := by kernel_rfl
theorem tb1 : pw.main.body.drop 2 = clsSt :: pw.main.body.drop 3 := by kernel_rfl
theorem tb2 : TablesWhole.wSs TablesWhole.holds pw.main.scope cxM pw.main.scope (pw.main.body.drop 3) = true := by kernel_rfl
theorem ta0 : TablesWhole.wSs TablesWhole.gather pw.main.scope cxM pw.main.scope (pw.main.body.take 2) = [] := by kernel_rfl
theorem ta2 : TablesWhole.wSs TablesWhole.gather pw.main.scope cxM pw.main.scope (pw.main.body.drop 3) = [] := by kernel_rfl
theorem tbA : TablesWhole.wSs TablesWhole.holds pw.main.scope cxM pw.main.scope pw.main.body = true := wss_td 2 tb0 (of_lH tb1 (wss_cons tcS tb2))
theorem taA : TablesWhole.wSs TablesWhole.gather pw.main.scope cxM pw.main.scope pw.main.body = [] := wsg_td 2 ta0 (of_lG tb1 (wsg_cons tgS ta2))
theorem tnt : TablesWhole.noTwice pw.main.scope = true := by kernel_rfl
theorem tabs : pw.tablesWhole = true := tw_of taA rfl tnt tbA rfl rfl rfl
end Mine
/-! text HS -/
open PySem PySem.W PyProof.Rows
set_option Elab.async false
set_option maxRecDepth 100000
set_option maxHeartbeats 0
namespace Mine
/-! the row is well said: look by look -/
theorem looks_of {p : Program} (h1 : sreFenced p.main = true) (h2 : ((moduleNames p.main.body).isEmpty || lookedIntoSs (moduleNames p.main.body) p.main.body) = true) (h3 : namesResolve p = true) (h4 : p.boundNames.all (fun n => !worldNames.contains n) = true) (h5 : (importedModules p.main.body).all cThrough.contains = true)
    (h6 : (["vars", "dir", "locals"] : List Str).filter (readsOut p p.main.body) = []) (h7 : noRoadLSs { strict := false, foot := none, bare := [] } p.main.body = true) (h8 : (namesMeet p p.main.body fun _ n => attrL n) = true) : looksOpen p = true := by
  unfold looksOpen
  rw [h1, h2, h3, h4, h5, h6, h8]
  show (true && noRoadLSs _ _ && true) = true
  rw [show noRoadLSs { strict := !true, foot := none, bare := [] } p.main.body = true from h7]
  rfl
theorem sa1 : sreFenced pw.main = true := by kernel_rfl
theorem sa2 : ((moduleNames pw.main.body).isEmpty || lookedIntoSs (moduleNames pw.main.body) pw.main.body) = true := by kernel_rfl
theorem sa3 : namesResolve pw = true := by kernel_rfl
theorem sa4 : pw.boundNames.all (fun n => !worldNames.contains n) = true := by kernel_rfl
theorem sa5 : (importedModules pw.main.body).all cThrough.contains = true := by kernel_rfl
theorem sa6 : (["vars", "dir", "locals"] : List Str).filter (readsOut pw pw.main.body) = [] := by kernel_rfl
theorem sa7 : noRoadLSs { strict := false, foot := none, bare := [] } pw.main.body = true := by kernel_rfl
theorem sa8 : (namesMeet pw pw.main.body fun _ n => attrL n) = true := by kernel_rfl
theorem sa9 : looksOpen pw = true := looks_of sa1 sa2 sa3 sa4 sa5 sa6 sa7 sa8
theorem part_of {r : OpenRow} (h : looksOpen r.prog = true) (h2 : (r.loose.isEmpty && r.makers.isEmpty && (r.records.isEmpty && (r.raises.isEmpty && (r.mutates.isEmpty && (r.within.isEmpty && r.same.isNone)))) && (r.toRowW.solid && (r.pre.litsOk && r.post.litsOk))) = true) : r.partSaid = true := by
  simp only [Bool.and_eq_true, List.isEmpty_iff, Option.isNone_iff_eq_none] at h2
  obtain ⟨⟨⟨a1, a2⟩, a3, a4, a5, a6, a7⟩, a8, a9, a10⟩ := h2
  unfold OpenRow.partSaid
  rw [h, a8, a9, a10, a1, a2, a3, a4, a5, a6, a7]
  rfl
theorem sb1 : (PySem.Challenge.rw_im0095_04.row.loose.isEmpty && PySem.Challenge.rw_im0095_04.row.makers.isEmpty && (PySem.Challenge.rw_im0095_04.row.records.isEmpty && (PySem.Challenge.rw_im0095_04.row.raises.isEmpty && (PySem.Challenge.rw_im0095_04.row.mutates.isEmpty && (PySem.Challenge.rw_im0095_04.row.within.isEmpty && PySem.Challenge.rw_im0095_04.row.same.isNone)))) && (PySem.Challenge.rw_im0095_04.row.toRowW.solid && (PySem.Challenge.rw_im0095_04.row.pre.litsOk && PySem.Challenge.rw_im0095_04.row.post.litsOk))) = true := by kernel_rfl
theorem sb2 : PySem.Challenge.rw_im0095_04.row.prog.boundNames.contains PySem.Challenge.rw_im0095_04.row.name = true := by kernel_rfl
theorem sb3 : (!startupNames.contains PySem.Challenge.rw_im0095_04.row.name) = true := by kernel_rfl
theorem well_of {r : OpenRow} (h : r.partSaid = true) (h2 : r.prog.boundNames.contains r.name = true) (h3 : (!startupNames.contains r.name) = true) : r.wellSaid = true := by
  unfold OpenRow.wellSaid
  rw [h, h2, h3]
  rfl
theorem sd0 : PySem.Challenge.rw_im0095_04.row.wellSaid = true := well_of (part_of sa9 sb1) sb2 sb3
theorem sd1 : decide (PySem.Challenge.rw_im0095_04.foot ≤ (behindTheImports PySem.Challenge.rw_im0095_04.prog).length) = true := by kernel_rfl
theorem sd2 : PySem.Challenge.rw_im0095_04.footing.all footLine = true := by kernel_rfl
theorem sd3 : noClassBlock PySem.Challenge.rw_im0095_04.prog PySem.Challenge.rw_im0095_04.footing = true := by kernel_rfl
theorem sd4 : Option.all (fun n => decide (63 ≤ n)) PySem.Challenge.rw_im0095_04.most = true := by kernel_rfl
theorem sd5 : Option.all (fun n => decide (2 ^ 63 ≤ n)) PySem.Challenge.rw_im0095_04.bound = true := by kernel_rfl
theorem sd6 : noRoadLSs { strict := true, foot := some PySem.Challenge.rw_im0095_04.bound', writes := PySem.Challenge.rw_im0095_04.writes, may := PySem.Challenge.rw_im0095_04.may } PySem.Challenge.rw_im0095_04.footing = true := by kernel_rfl
theorem sd7 : defStands PySem.Challenge.rw_im0095_04.about PySem.Challenge.rw_im0095_04.above = true := by kernel_rfl
theorem sd8 : PySem.Challenge.rw_im0095_04.namesIt = true := by kernel_rfl
theorem sd9 : ([Str.ofString "type", Str.ofString "isinstance", Str.ofString "issubclass", Str.ofString "getattr", Str.ofString "hasattr"].all fun n => PySem.Challenge.rw_im0095_04.about != [n]) = true := by kernel_rfl
theorem sd10 : (PySem.Challenge.rw_im0095_04.bound'.all fun n => !builtinNamed n || PySem.Challenge.rw_im0095_04.about == [n] || !PySem.Challenge.rw_im0095_04.reads n) = true := by kernel_rfl
theorem sd11 : (!PySem.Challenge.rw_im0095_04.writes || (List.flatMap importedNames PySem.Challenge.rw_im0095_04.prog.main.body).all fun n => !PySem.Challenge.rw_im0095_04.reads n) = true := by kernel_rfl
theorem sd12 : ((List.flatMap importedNames PySem.Challenge.rw_im0095_04.prog.main.body).all fun n => !PySem.Challenge.rw_im0095_04.reads n || (drawsOf n PySem.Challenge.rw_im0095_04.prog.main.body).all fun mn => mn.snd != Str.ofString "attrgetter" && mn.snd != Str.ofString "methodcaller") = true := by kernel_rfl
theorem sd13 : (namesMeet PySem.Challenge.rw_im0095_04.prog PySem.Challenge.rw_im0095_04.footing fun sc n => (![Str.ofString "type", Str.ofString "isinstance", Str.ofString "issubclass", Str.ofString "getattr", Str.ofString "hasattr"].contains n || List.lookup n sc.names == some NameKind.globalImplicit) && (PySem.Challenge.rw_im0095_04.may != some n || sc.kind == ScopeKind.module || List.lookup n sc.names == some NameKind.globalImplicit)) = true := by kernel_rfl
theorem sd14 : PySem.Challenge.rw_im0095_04.own.contains PySem.Challenge.rw_im0095_04.name = true := by kernel_rfl
theorem sd15 : (PySem.Challenge.rw_im0095_04.own.eraseDups.length == PySem.Challenge.rw_im0095_04.own.length) = true := by kernel_rfl
theorem sd16 : (PySem.Challenge.rw_im0095_04.own.all fun n => !builtinNamed n) = true := by kernel_rfl
theorem sd17 : (namesMeet PySem.Challenge.rw_im0095_04.prog PySem.Challenge.rw_im0095_04.above fun _ n => !PySem.Challenge.rw_im0095_04.own.contains n) = true := by kernel_rfl
theorem sd18 : (namesMeet PySem.Challenge.rw_im0095_04.prog PySem.Challenge.rw_im0095_04.footing fun sc n => sc.kind == ScopeKind.module || List.lookup n sc.names != some NameKind.globalExplicit) = true := by kernel_rfl
theorem said : OpenLaw.wellSaid PySem.Challenge.rw_im0095_04 = true := by
  unfold OpenLaw.wellSaid
  simp only [Bool.and_eq_true]
  exact ⟨⟨⟨⟨⟨⟨⟨⟨⟨⟨⟨⟨⟨⟨⟨⟨⟨⟨sd0, sd1⟩, sd2⟩, sd3⟩, sd4⟩, sd5⟩, sd6⟩, sd7⟩, sd8⟩, sd9⟩, sd10⟩, sd11⟩, sd12⟩, sd13⟩, sd14⟩, sd15⟩, sd16⟩, sd17⟩, sd18⟩
end Mine
/-! text HB -/
open PySem PySem.W PyProof.Rows
set_option Elab.async false
set_option maxRecDepth 100000
set_option maxHeartbeats 0
namespace Mine
noncomputable def xs : List Stmt → Env → Sem Flow := PySem.W.Fast.tw12563942051412417395
theorem xs_eq : execs = xs := by unfold xs; rw [PySem.W.Fast.te12563942051412417395]
noncomputable def piecesT (l : List Stmt) (env : Env) (c : Code) (p : Pos) (B : List Frame) : Thread := ⟨(xs l env).wrap doneF deadEnd id id, c, p, B⟩
theorem piecesT_eq (l : List Stmt) (env : Env) (c : Code) (p : Pos) (B : List Frame) : piecesOf l env c p B = piecesT l env c p B := by unfold piecesT; rw [← xs_eq]
noncomputable def restT (l : List Stmt) (env : Env) (c : Code) (p : Pos) (B : List Frame) : Thread := ⟨(xs l env).wrap doneF (leaveH env) id id, c, p, B⟩
theorem restT_eq (l : List Stmt) (env : Env) (c : Code) (p : Pos) (B : List Frame) : restOf l env c p B = restT l env c p B := by unfold restT; rw [← xs_eq]; rfl
/-- the block's start and its first 15 lines (numbers) -/
noncomputable def Pb (w : World) (os : OsState) : Option (Flow × SharedT × Code × Pos) := segG okT (stT w) 2 2000 (Pd w os).1 (blockOf clsBody envC codeC clsPos (Bc w os))
noncomputable def Sb (w : World) (os : OsState) : SharedT := match Pb w os with | some r => r.2.1 | none => S0 w os
noncomputable def qb (w : World) (os : OsState) : Pos := match Pb w os with | some r => r.2.2.2 | none => default
theorem pb (w : World) (os : OsState) : Pb w os = some (.next, Sb w os, codeC, qb w os) := by kernel_rfl
noncomputable def Pn (w : World) (os : OsState) : Option (Flow × SharedT × Code × Pos) := segG okT (stT w) 2 2000 (Sb w os) (piecesT (clsBody.take 15) envC codeC (qb w os) (Bc w os))
noncomputable def Sn (w : World) (os : OsState) : SharedT := match Pn w os with | some r => r.2.1 | none => S0 w os
noncomputable def qn (w : World) (os : OsState) : Pos := match Pn w os with | some r => r.2.2.2 | none => default
theorem pn (w : World) (os : OsState) : Pn w os = some (.next, Sn w os, codeC, qn w os) := by kernel_rfl

/-! the state behind k of the class's defs -/
noncomputable def strV (x : Str) (t : Tok) : Value := .str x t
noncomputable def varsOf (t : Nat) : List Str → List Value
  | [] => []
  | x :: r => .str x t :: varsOf (t + 1) r
noncomputable def tupO (l : List Value) : Obj := { cls := .type "tuple", data := .seq l.toArray }
noncomputable def noneO (l : List Value) : Obj := { cls := .none, data := .fields l.toArray }
/-- what a def makes: its objects, its rows in the class's dict and table, the next token -/
structure Made where
  objs : List Obj
  es : List DictEntry
  tab : List Value
  n : Nat
  tok : Nat
noncomputable def modV : Value := .str (Str.ofString "py65.devices.mpu6502") 194
/-- an evaluated number -/
noncomputable def frc {α : Type} (n : Nat) (f : Nat → α) : α := match n with
  | 0 => f 0
  | k + 1 => f (k + 1)
noncomputable def defMade (P : Params) (a t : Nat) : List Stmt → Made
  | .FunctionDef name args body _ _ _ scope _ _ pos :: r =>
    let d := !args.defaults.isEmpty
    frc (if d then a + 1 else a) fun a0 => frc (if d then t + 1 else t) fun t0 =>
    let vs := (scope.names.filter fun x => x.2 == .local || x.2 == .cell).map (·.1)
    let cs := (scope.names.filter fun x => x.2 == .cell).map (·.1)
    let nv := vs.length + cs.length
    let qual := Str.ofString "MPU." ++ name
    frc (a0 + 7) fun a1 => frc (t0 + (nv + 6)) fun t1 =>
    let m := defMade P a1 t1 r
    let fn : FuncData := { name := name, qualname := qual, params := args, body := .stmts body, scope := scope, globals := 0, closure := [], defaults := .none, kwdefaults := .none }
    let file := Str.ofString "/claim/cut.py"
    { objs := (if d then [tupO [.none, .int 0 t]] else []) ++
        (tupO [] :: noneO [] :: tupO (varsOf (t0 + 3) vs) :: tupO (varsOf (t0 + (vs.length + 3)) cs) :: { cls := .none, data := .func fn } ::
         { cls := .type "code", data := .fields [strV name t0, strV qual (t0 + 1), strV file (t0 + 2), .int pos.line 0, .int args.args.length 0, .int 0 0, .int 0 0, .int 3 0, .ref a0, .bool true, .int 181 0, .ref (a0 + 1), .none, .ref (a0 + 2), .ref (a0 + 3), .ref (a0 + 4), .int (t0 + (nv + 3) : Nat) 0, .int pos.line 0, strV file (t0 + (nv + 4))].toArray } ::
         { cls := .type "function", data := .func { fn with globals := 3, defaults := if d then .ref a else .none, pyModule := modV, code := .ref (a0 + 5) } } :: m.objs)
      es := ⟨PyData.keyHash P name, .str name (t0 + (nv + 5)), .ref (a0 + 6)⟩ :: m.es
      tab := .int pos.line 0 :: .int pos.col 0 :: .ref (a0 + 5) :: m.tab
      n := m.n + 1
      tok := m.tok }
  | _ => ⟨[], [], [], 0, t⟩
noncomputable def baseO (w : World) (os : OsState) (i : Nat) : Obj := ((Sn w os).tree.get i).getD default
noncomputable def esB (w : World) (os : OsState) : List DictEntry := match (baseO w os 24).data with | .dict es _ => es.toList | _ => []
noncomputable def heapL (w : World) (os : OsState) (m : Made) : List Obj :=
  ((List.range 24).map (baseO w os)) ++ ({ cls := .type "dict", data := .dict (esB w os ++ m.es).toArray (18 + m.n) } : Obj) :: baseO w os 25 :: noneO m.tab :: baseO w os 27 :: baseO w os 28 :: m.objs
noncomputable def Sk (w : World) (os : OsState) (m : Made) (n t : Nat) : SharedT := ⟨btL 20 (heapL w os m), n, (Sn w os).life, #[], boot_drawn, t, os⟩
noncomputable def defsK (w : World) (k : Nat) : Made := defMade w.params 29 238 ((clsBody.drop 15).take k)
theorem test0 (w : World) (os : OsState) : Sn w os = Sk w os (defsK w 0) 29 238 := by kernel_rfl
end Mine
/-! text HX -/
open PySem PySem.W PyProof.Rows
set_option Elab.async false
set_option maxRecDepth 100000
set_option maxHeartbeats 0
namespace Mine
noncomputable def posOf : Stmt → Pos
  | .FunctionDef _ _ _ _ _ _ _ _ _ p => p
  | _ => default
noncomputable def posK (k : Nat) : Pos := match (clsBody.drop (14 + k)).head? with | some s => posOf s | none => default
noncomputable def Tf (w : World) (os : OsState) : Thread := restT (clsBody.drop 214) envC codeC (posK 199) (Bc w os)
noncomputable def fnRec (i : Nat) : FuncData := match (pw.main.body.drop i).head? with
  | some (.FunctionDef name args body _ _ _ scope _ _ _) => { name := name, qualname := name, params := args, body := .stmts body, scope := scope, globals := 0, closure := [], defaults := .none, kwdefaults := .none }
  | _ => default
noncomputable def entS (P : Params) (x : String) (t : Tok) (v : Value) : DictEntry := ⟨PyData.keyHash P (Str.ofString x), .str (Str.ofString x) t, v⟩
noncomputable def esAll (P : Params) : List DictEntry := [entS P "__module__" 203 (.str (Str.ofString "py65.devices.mpu6502") 194), entS P "__qualname__" 205 (.str (Str.ofString "MPU") 204), entS P "__firstlineno__" 207 (.int 5 206), entS P "RESET" 209 (.int 65532 208), entS P "NMI" 211 (.int 65530 210), entS P "IRQ" 213 (.int 65534 212), entS P "NEGATIVE" 215 (.int 128 214), entS P "OVERFLOW" 217 (.int 64 216), entS P "UNUSED" 219 (.int 32 218), entS P "BREAK" 221 (.int 16 220), entS P "DECIMAL" 223 (.int 8 222), entS P "INTERRUPT" 225 (.int 4 224), entS P "ZERO" 227 (.int 2 226), entS P "CARRY" 229 (.int 1 228), entS P "BYTE_WIDTH" 231 (.int 8 230), entS P "BYTE_FORMAT" 233 (.str (Str.ofString "%02x") 232), entS P "ADDR_WIDTH" 235 (.int 16 234), entS P "ADDR_FORMAT" 237 (.str (Str.ofString "%04x") 236)] ++ (defMade P 29 238 ((clsBody.drop 15).take 199)).es ++ [entS P "instruct" 1710 (.ref 1423), entS P "cycletime" 1967 (.ref 1424), entS P "extracycles" 2224 (.ref 1425), entS P "__static_attributes__" 2241 (.ref 1426)]
noncomputable def dropKey (x : Str) : List DictEntry → List DictEntry
  | [] => []
  | e :: r => match e.key.isStr x with | true => r | false => e :: dropKey x r
noncomputable def esCls (P : Params) : List DictEntry := dropKey (Str.ofString "__qualname__") (esAll P)
noncomputable def lateL1423 : List Value := [.ref 372, .ref 379, .ref 365, .ref 365, .ref 365, .ref 386, .ref 393, .ref 365, .ref 400, .ref 407, .ref 414, .ref 365, .ref 365, .ref 421, .ref 428, .ref 365, .ref 435, .ref 442, .ref 365, .ref 365, .ref 365, .ref 449, .ref 456, .ref 365, .ref 463, .ref 470, .ref 365, .ref 365, .ref 365, .ref 477, .ref 484, .ref 365, .ref 491, .ref 498, .ref 365, .ref 365, .ref 505, .ref 512, .ref 519, .ref 365, .ref 526, .ref 533, .ref 540, .ref 365, .ref 547, .ref 554, .ref 561, .ref 365, .ref 568, .ref 575, .ref 365, .ref 365, .ref 365, .ref 582, .ref 589, .ref 365, .ref 596, .ref 603, .ref 365, .ref 365, .ref 365, .ref 610, .ref 617, .ref 365, .ref 624, .ref 631, .ref 365, .ref 365, .ref 365, .ref 638, .ref 645, .ref 365, .ref 652, .ref 659, .ref 666, .ref 365, .ref 673, .ref 680, .ref 687, .ref 365, .ref 694, .ref 701, .ref 365, .ref 365, .ref 365, .ref 708, .ref 715, .ref 365, .ref 722, .ref 729, .ref 365, .ref 365, .ref 365, .ref 736, .ref 743, .ref 365, .ref 750, .ref 757, .ref 365, .ref 365, .ref 365, .ref 764, .ref 771, .ref 365, .ref 778, .ref 785, .ref 792, .ref 365, .ref 799, .ref 806, .ref 813, .ref 365, .ref 820, .ref 827, .ref 365, .ref 365, .ref 365, .ref 834, .ref 841, .ref 365, .ref 848, .ref 855, .ref 365, .ref 365, .ref 365, .ref 862, .ref 869, .ref 365, .ref 365, .ref 876, .ref 365, .ref 365, .ref 883, .ref 890, .ref 897, .ref 365, .ref 904, .ref 365, .ref 911, .ref 365, .ref 918, .ref 925, .ref 932, .ref 365, .ref 939, .ref 946, .ref 365, .ref 365, .ref 953, .ref 960, .ref 967, .ref 365, .ref 974, .ref 981, .ref 988, .ref 365, .ref 365, .ref 995, .ref 365, .ref 365, .ref 1002, .ref 1009, .ref 1016, .ref 365, .ref 1023, .ref 1030, .ref 1037, .ref 365, .ref 1044, .ref 1051, .ref 1058, .ref 365, .ref 1065, .ref 1072, .ref 1079, .ref 365, .ref 1086, .ref 1093, .ref 365, .ref 365, .ref 1100, .ref 1107, .ref 1114, .ref 365, .ref 1121, .ref 1128, .ref 1135, .ref 365, .ref 1142, .ref 1149, .ref 1156, .ref 365, .ref 1163, .ref 1170, .ref 365, .ref 365, .ref 1177, .ref 1184, .ref 1191, .ref 365, .ref 1198, .ref 1205, .ref 1212, .ref 365, .ref 1219, .ref 1226, .ref 1233, .ref 365, .ref 1240, .ref 1247, .ref 365, .ref 365, .ref 365, .ref 1254, .ref 1261, .ref 365, .ref 1268, .ref 1275, .ref 365, .ref 365, .ref 365, .ref 1282, .ref 1289, .ref 365, .ref 1296, .ref 1303, .ref 365, .ref 365, .ref 1310, .ref 1317, .ref 1324, .ref 365, .ref 1331, .ref 1338, .ref 1345, .ref 365, .ref 1352, .ref 1359, .ref 1366, .ref 365, .ref 1373, .ref 1380, .ref 365, .ref 365, .ref 365, .ref 1387, .ref 1394, .ref 365, .ref 1401, .ref 1408, .ref 365, .ref 365, .ref 365, .ref 1415, .ref 1422, .ref 365]
noncomputable def lateL1424 : List Value := [.int 7 1711, .int 6 1712, .int 0 1713, .int 0 1714, .int 0 1715, .int 3 1716, .int 5 1717, .int 0 1718, .int 3 1719, .int 2 1720, .int 2 1721, .int 0 1722, .int 0 1723, .int 4 1724, .int 6 1725, .int 0 1726, .int 2 1727, .int 5 1728, .int 0 1729, .int 0 1730, .int 0 1731, .int 4 1732, .int 6 1733, .int 0 1734, .int 2 1735, .int 4 1736, .int 0 1737, .int 0 1738, .int 0 1739, .int 4 1740, .int 7 1741, .int 0 1742, .int 6 1743, .int 6 1744, .int 0 1745, .int 0 1746, .int 3 1747, .int 3 1748, .int 5 1749, .int 0 1750, .int 4 1751, .int 2 1752, .int 2 1753, .int 0 1754, .int 4 1755, .int 4 1756, .int 6 1757, .int 0 1758, .int 2 1759, .int 5 1760, .int 0 1761, .int 0 1762, .int 0 1763, .int 4 1764, .int 6 1765, .int 0 1766, .int 2 1767, .int 4 1768, .int 0 1769, .int 0 1770, .int 0 1771, .int 4 1772, .int 7 1773, .int 0 1774, .int 6 1775, .int 6 1776, .int 0 1777, .int 0 1778, .int 0 1779, .int 3 1780, .int 5 1781, .int 0 1782, .int 3 1783, .int 2 1784, .int 2 1785, .int 0 1786, .int 3 1787, .int 4 1788, .int 6 1789, .int 0 1790, .int 2 1791, .int 5 1792, .int 0 1793, .int 0 1794, .int 0 1795, .int 4 1796, .int 6 1797, .int 0 1798, .int 2 1799, .int 4 1800, .int 0 1801, .int 0 1802, .int 0 1803, .int 4 1804, .int 7 1805, .int 0 1806, .int 6 1807, .int 6 1808, .int 0 1809, .int 0 1810, .int 0 1811, .int 3 1812, .int 5 1813, .int 0 1814, .int 4 1815, .int 2 1816, .int 2 1817, .int 0 1818, .int 5 1819, .int 4 1820, .int 6 1821, .int 0 1822, .int 2 1823, .int 5 1824, .int 0 1825, .int 0 1826, .int 0 1827, .int 4 1828, .int 6 1829, .int 0 1830, .int 2 1831, .int 4 1832, .int 0 1833, .int 0 1834, .int 0 1835, .int 4 1836, .int 7 1837, .int 0 1838, .int 0 1839, .int 6 1840, .int 0 1841, .int 0 1842, .int 3 1843, .int 3 1844, .int 3 1845, .int 0 1846, .int 2 1847, .int 0 1848, .int 2 1849, .int 0 1850, .int 4 1851, .int 4 1852, .int 4 1853, .int 0 1854, .int 2 1855, .int 6 1856, .int 0 1857, .int 0 1858, .int 4 1859, .int 4 1860, .int 4 1861, .int 0 1862, .int 2 1863, .int 5 1864, .int 2 1865, .int 0 1866, .int 0 1867, .int 5 1868, .int 0 1869, .int 0 1870, .int 2 1871, .int 6 1872, .int 2 1873, .int 0 1874, .int 3 1875, .int 3 1876, .int 3 1877, .int 0 1878, .int 2 1879, .int 2 1880, .int 2 1881, .int 0 1882, .int 4 1883, .int 4 1884, .int 4 1885, .int 0 1886, .int 2 1887, .int 5 1888, .int 0 1889, .int 0 1890, .int 4 1891, .int 4 1892, .int 4 1893, .int 0 1894, .int 2 1895, .int 4 1896, .int 2 1897, .int 0 1898, .int 4 1899, .int 4 1900, .int 4 1901, .int 0 1902, .int 2 1903, .int 6 1904, .int 0 1905, .int 0 1906, .int 3 1907, .int 3 1908, .int 5 1909, .int 0 1910, .int 2 1911, .int 2 1912, .int 2 1913, .int 0 1914, .int 4 1915, .int 4 1916, .int 3 1917, .int 0 1918, .int 2 1919, .int 5 1920, .int 0 1921, .int 0 1922, .int 0 1923, .int 4 1924, .int 6 1925, .int 0 1926, .int 2 1927, .int 4 1928, .int 0 1929, .int 0 1930, .int 0 1931, .int 4 1932, .int 7 1933, .int 0 1934, .int 2 1935, .int 6 1936, .int 0 1937, .int 0 1938, .int 3 1939, .int 3 1940, .int 5 1941, .int 0 1942, .int 2 1943, .int 2 1944, .int 2 1945, .int 0 1946, .int 4 1947, .int 4 1948, .int 6 1949, .int 0 1950, .int 2 1951, .int 5 1952, .int 0 1953, .int 0 1954, .int 0 1955, .int 4 1956, .int 6 1957, .int 0 1958, .int 2 1959, .int 4 1960, .int 0 1961, .int 0 1962, .int 0 1963, .int 4 1964, .int 7 1965, .int 0 1966]
noncomputable def lateL1425 : List Value := [.int 0 1968, .int 0 1969, .int 0 1970, .int 0 1971, .int 0 1972, .int 0 1973, .int 0 1974, .int 0 1975, .int 0 1976, .int 0 1977, .int 0 1978, .int 0 1979, .int 0 1980, .int 0 1981, .int 0 1982, .int 0 1983, .int 2 1984, .int 1 1985, .int 0 1986, .int 0 1987, .int 0 1988, .int 0 1989, .int 0 1990, .int 0 1991, .int 0 1992, .int 1 1993, .int 0 1994, .int 0 1995, .int 0 1996, .int 1 1997, .int 0 1998, .int 0 1999, .int 0 2000, .int 0 2001, .int 0 2002, .int 0 2003, .int 0 2004, .int 0 2005, .int 0 2006, .int 0 2007, .int 0 2008, .int 0 2009, .int 0 2010, .int 0 2011, .int 0 2012, .int 0 2013, .int 0 2014, .int 0 2015, .int 2 2016, .int 1 2017, .int 0 2018, .int 0 2019, .int 0 2020, .int 0 2021, .int 0 2022, .int 0 2023, .int 0 2024, .int 1 2025, .int 0 2026, .int 0 2027, .int 0 2028, .int 1 2029, .int 0 2030, .int 0 2031, .int 0 2032, .int 0 2033, .int 0 2034, .int 0 2035, .int 0 2036, .int 0 2037, .int 0 2038, .int 0 2039, .int 0 2040, .int 0 2041, .int 0 2042, .int 0 2043, .int 0 2044, .int 0 2045, .int 0 2046, .int 0 2047, .int 2 2048, .int 1 2049, .int 0 2050, .int 0 2051, .int 0 2052, .int 0 2053, .int 0 2054, .int 0 2055, .int 0 2056, .int 1 2057, .int 0 2058, .int 0 2059, .int 0 2060, .int 1 2061, .int 0 2062, .int 0 2063, .int 0 2064, .int 0 2065, .int 0 2066, .int 0 2067, .int 0 2068, .int 0 2069, .int 0 2070, .int 0 2071, .int 0 2072, .int 0 2073, .int 0 2074, .int 0 2075, .int 0 2076, .int 0 2077, .int 0 2078, .int 0 2079, .int 2 2080, .int 1 2081, .int 0 2082, .int 0 2083, .int 0 2084, .int 0 2085, .int 0 2086, .int 0 2087, .int 0 2088, .int 1 2089, .int 0 2090, .int 0 2091, .int 0 2092, .int 1 2093, .int 0 2094, .int 0 2095, .int 0 2096, .int 0 2097, .int 0 2098, .int 0 2099, .int 0 2100, .int 0 2101, .int 0 2102, .int 0 2103, .int 0 2104, .int 0 2105, .int 0 2106, .int 0 2107, .int 0 2108, .int 0 2109, .int 0 2110, .int 0 2111, .int 2 2112, .int 0 2113, .int 0 2114, .int 0 2115, .int 0 2116, .int 0 2117, .int 0 2118, .int 0 2119, .int 0 2120, .int 0 2121, .int 0 2122, .int 0 2123, .int 0 2124, .int 0 2125, .int 0 2126, .int 0 2127, .int 0 2128, .int 0 2129, .int 0 2130, .int 0 2131, .int 0 2132, .int 0 2133, .int 0 2134, .int 0 2135, .int 0 2136, .int 0 2137, .int 0 2138, .int 0 2139, .int 0 2140, .int 0 2141, .int 0 2142, .int 0 2143, .int 2 2144, .int 1 2145, .int 0 2146, .int 0 2147, .int 0 2148, .int 0 2149, .int 0 2150, .int 0 2151, .int 0 2152, .int 1 2153, .int 0 2154, .int 0 2155, .int 1 2156, .int 1 2157, .int 1 2158, .int 0 2159, .int 0 2160, .int 0 2161, .int 0 2162, .int 0 2163, .int 0 2164, .int 0 2165, .int 0 2166, .int 0 2167, .int 0 2168, .int 0 2169, .int 0 2170, .int 0 2171, .int 0 2172, .int 0 2173, .int 0 2174, .int 0 2175, .int 2 2176, .int 1 2177, .int 0 2178, .int 0 2179, .int 0 2180, .int 0 2181, .int 0 2182, .int 0 2183, .int 0 2184, .int 1 2185, .int 0 2186, .int 0 2187, .int 0 2188, .int 1 2189, .int 0 2190, .int 0 2191, .int 0 2192, .int 0 2193, .int 0 2194, .int 0 2195, .int 0 2196, .int 0 2197, .int 0 2198, .int 0 2199, .int 0 2200, .int 0 2201, .int 0 2202, .int 0 2203, .int 0 2204, .int 0 2205, .int 0 2206, .int 0 2207, .int 2 2208, .int 1 2209, .int 0 2210, .int 0 2211, .int 0 2212, .int 0 2213, .int 0 2214, .int 0 2215, .int 0 2216, .int 1 2217, .int 0 2218, .int 0 2219, .int 0 2220, .int 1 2221, .int 0 2222, .int 0 2223]
noncomputable def lateL1521 : List Value := [.ref 1468, .ref 1469, .ref 1470, .ref 1471, .ref 1472, .ref 1473, .ref 1474, .ref 1475, .ref 1476, .ref 1477, .ref 1478, .ref 1479, .ref 1480, .ref 1481, .ref 1482, .ref 1483, .ref 1484, .ref 1485, .ref 1486, .ref 1487, .ref 1488, .ref 1489, .ref 1490, .ref 1491, .ref 1492, .ref 1493, .ref 1494, .ref 1495, .ref 1496, .ref 1497, .ref 1498, .ref 1499, .ref 1500, .ref 1501, .ref 1502, .ref 1503, .ref 1504, .ref 1505, .ref 1506, .ref 1507, .ref 1508, .ref 1509, .ref 1510, .ref 1511, .ref 1512, .ref 1513, .ref 1514, .ref 1515, .ref 1516, .ref 1517, .ref 1518, .ref 1519, .ref 1520]
noncomputable def lateO (P : Params) : List Obj := [
  ⟨.type "list", none, .seq lateL1423.toArray, #[]⟩,
  ⟨.type "list", none, .seq lateL1424.toArray, #[]⟩,
  ⟨.type "list", none, .seq lateL1425.toArray, #[]⟩,
  ⟨.type "tuple", none, .seq [.str (Str.ofString "a") 2225, .str (Str.ofString "addcycles") 2226, .str (Str.ofString "addrHighMask") 2227, .str (Str.ofString "addrMask") 2228, .str (Str.ofString "byteMask") 2229, .str (Str.ofString "excycles") 2230, .str (Str.ofString "memory") 2231, .str (Str.ofString "name") 2232, .str (Str.ofString "p") 2233, .str (Str.ofString "pc") 2234, .str (Str.ofString "processorCycles") 2235, .str (Str.ofString "sp") 2236, .str (Str.ofString "spBase") 2237, .str (Str.ofString "start_pc") 2238, .str (Str.ofString "x") 2239, .str (Str.ofString "y") 2240].toArray, #[]⟩,
  ⟨.type "dict", none, .dict (esCls P ++ [entS P "__dict__" 2243 (.ref 1429), entS P "__weakref__" 2245 (.ref 1430), entS P "__doc__" 2246 (.none)]).toArray 4, #[]⟩,
  ⟨.type "type", none, .cls { name := Str.ofString "MPU", bases := [.type "object"], mro := [.ref 1428, .type "object"], ns := 1427, qualname := Str.ofString "MPU" }, [none, none, some (.str (Str.ofString "MPU") 196), some (.str (Str.ofString "MPU") 204), some (.builtin "object.__new__"), some (.bool true)].toArray⟩,
  ⟨.type "getset_descriptor", none, .fields [.str (Str.ofString "__dict__") 2242, .ref 1428, .builtin "function.__dict__", .builtin "function.__dict__#set"].toArray, #[]⟩,
  ⟨.type "getset_descriptor", none, .fields [.str (Str.ofString "__weakref__") 2244, .ref 1428, .builtin "ExceptionGroup.__weakref__", .none].toArray, #[]⟩,
  ⟨.type "super", none, .fields [.ref 1428, .ref 1428, .ref 1428].toArray, #[]⟩,
  ⟨.type "builtin_function_or_method", none, .fields [.builtin "object.__init_subclass__", .ref 1428].toArray, #[]⟩,
  ⟨.type "tuple", none, .seq [].toArray, #[]⟩,
  ⟨.none, none, .fields [].toArray, #[]⟩,
  ⟨.type "tuple", none, .seq [].toArray, #[]⟩,
  ⟨.type "tuple", none, .seq [].toArray, #[]⟩,
  ⟨.none, none, .func (fnRec 4), #[]⟩,
  ⟨.type "code", none, .fields [.str (Str.ofString "_law_one") 2251, .str (Str.ofString "_law_one") 2252, .str (Str.ofString "/claim/cut.py") 2253, .int 1031 0, .int 0 0, .int 0 0, .int 0 0, .int 3 0, .ref 1433, .bool true, .int 181 0, .ref 1434, .none, .ref 1435, .ref 1436, .ref 1437, .int 2254 0, .int 1031 0, .str (Str.ofString "/claim/cut.py") 2255].toArray, #[]⟩,
  ⟨.type "function", none, .func { fnRec 4 with globals := 3, pyModule := .str (Str.ofString "law_im0095_04") 2249, code := .ref 1438 }, #[]⟩,
  ⟨.type "tuple", none, .seq [].toArray, #[]⟩,
  ⟨.none, none, .fields [].toArray, #[]⟩,
  ⟨.type "tuple", none, .seq [].toArray, #[]⟩,
  ⟨.type "tuple", none, .seq [].toArray, #[]⟩,
  ⟨.none, none, .func (fnRec 5), #[]⟩,
  ⟨.type "code", none, .fields [.str (Str.ofString "_law_two") 2257, .str (Str.ofString "_law_two") 2258, .str (Str.ofString "/claim/cut.py") 2259, .int 1033 0, .int 0 0, .int 0 0, .int 0 0, .int 3 0, .ref 1440, .bool true, .int 181 0, .ref 1441, .none, .ref 1442, .ref 1443, .ref 1444, .int 2260 0, .int 1033 0, .str (Str.ofString "/claim/cut.py") 2261].toArray, #[]⟩,
  ⟨.type "function", none, .func { fnRec 5 with globals := 3, pyModule := .str (Str.ofString "law_im0095_04") 2249, code := .ref 1445 }, #[]⟩,
  ⟨.type "tuple", none, .seq [].toArray, #[]⟩,
  ⟨.none, none, .fields [].toArray, #[]⟩,
  ⟨.type "tuple", none, .seq [].toArray, #[]⟩,
  ⟨.type "tuple", none, .seq [].toArray, #[]⟩,
  ⟨.none, none, .func (fnRec 6), #[]⟩,
  ⟨.type "code", none, .fields [.str (Str.ofString "_law_three") 2263, .str (Str.ofString "_law_three") 2264, .str (Str.ofString "/claim/cut.py") 2265, .int 1035 0, .int 0 0, .int 0 0, .int 0 0, .int 3 0, .ref 1447, .bool true, .int 181 0, .ref 1448, .none, .ref 1449, .ref 1450, .ref 1451, .int 2266 0, .int 1035 0, .str (Str.ofString "/claim/cut.py") 2267].toArray, #[]⟩,
  ⟨.type "function", none, .func { fnRec 6 with globals := 3, pyModule := .str (Str.ofString "law_im0095_04") 2249, code := .ref 1452 }, #[]⟩,
  ⟨.type "tuple", none, .seq [].toArray, #[]⟩,
  ⟨.none, none, .fields [].toArray, #[]⟩,
  ⟨.type "tuple", none, .seq [].toArray, #[]⟩,
  ⟨.type "tuple", none, .seq [].toArray, #[]⟩,
  ⟨.none, none, .func (fnRec 7), #[]⟩,
  ⟨.type "code", none, .fields [.str (Str.ofString "_law_near") 2269, .str (Str.ofString "_law_near") 2270, .str (Str.ofString "/claim/cut.py") 2271, .int 1037 0, .int 0 0, .int 0 0, .int 0 0, .int 3 0, .ref 1454, .bool true, .int 181 0, .ref 1455, .none, .ref 1456, .ref 1457, .ref 1458, .int 2272 0, .int 1037 0, .str (Str.ofString "/claim/cut.py") 2273].toArray, #[]⟩,
  ⟨.type "function", none, .func { fnRec 7 with globals := 3, pyModule := .str (Str.ofString "law_im0095_04") 2249, code := .ref 1459 }, #[]⟩,
  ⟨.type "tuple", none, .seq [].toArray, #[]⟩,
  ⟨.none, none, .fields [].toArray, #[]⟩,
  ⟨.type "tuple", none, .seq [].toArray, #[]⟩,
  ⟨.type "tuple", none, .seq [].toArray, #[]⟩,
  ⟨.none, none, .func (fnRec 8), #[]⟩,
  ⟨.type "code", none, .fields [.str (Str.ofString "_law_more") 2275, .str (Str.ofString "_law_more") 2276, .str (Str.ofString "/claim/cut.py") 2277, .int 1039 0, .int 0 0, .int 0 0, .int 0 0, .int 3 0, .ref 1461, .bool true, .int 181 0, .ref 1462, .none, .ref 1463, .ref 1464, .ref 1465, .int 2278 0, .int 1039 0, .str (Str.ofString "/claim/cut.py") 2279].toArray, #[]⟩,
  ⟨.type "function", none, .func { fnRec 8 with globals := 3, pyModule := .str (Str.ofString "law_im0095_04") 2249, code := .ref 1466 }, #[]⟩,
  ⟨.type "tuple", none, .seq [.str (Str.ofString "at") 2281, .str (Str.ofString "main") 2282].toArray, #[]⟩,
  ⟨.type "tuple", none, .seq [.str (Str.ofString "ldx") 2283, .int 0 2284].toArray, #[]⟩,
  ⟨.type "tuple", none, .seq [.str (Str.ofString "ldy") 2285, .int 0 2286].toArray, #[]⟩,
  ⟨.type "tuple", none, .seq [.str (Str.ofString "jsr") 2287, .str (Str.ofString "match") 2288].toArray, #[]⟩,
  ⟨.type "tuple", none, .seq [.str (Str.ofString "lda") 2289, .int 0 2290].toArray, #[]⟩,
  ⟨.type "tuple", none, .seq [.str (Str.ofString "rola") 2291, .int 0 2292].toArray, #[]⟩,
  ⟨.type "tuple", none, .seq [.str (Str.ofString "sta2") 2293, .int 16 2294].toArray, #[]⟩,
  ⟨.type "tuple", none, .seq [.str (Str.ofString "jmp") 2295, .str (Str.ofString "stop") 2296].toArray, #[]⟩,
  ⟨.type "tuple", none, .seq [.str (Str.ofString "at") 2297, .str (Str.ofString "match") 2298].toArray, #[]⟩,
  ⟨.type "tuple", none, .seq [.str (Str.ofString "ldax") 2299, .int 1024 2300].toArray, #[]⟩,
  ⟨.type "tuple", none, .seq [.str (Str.ofString "beq") 2301, .str (Str.ofString "end") 2302].toArray, #[]⟩,
  ⟨.type "tuple", none, .seq [.str (Str.ofString "cmp") 2303, .int 42 2304].toArray, #[]⟩,
  ⟨.type "tuple", none, .seq [.str (Str.ofString "beq") 2305, .str (Str.ofString "star") 2306].toArray, #[]⟩,
  ⟨.type "tuple", none, .seq [.str (Str.ofString "cmp") 2307, .int 63 2308].toArray, #[]⟩,
  ⟨.type "tuple", none, .seq [.str (Str.ofString "beq") 2309, .str (Str.ofString "any") 2310].toArray, #[]⟩,
  ⟨.type "tuple", none, .seq [.str (Str.ofString "cmpy") 2311, .int 1056 2312].toArray, #[]⟩,
  ⟨.type "tuple", none, .seq [.str (Str.ofString "bne") 2313, .str (Str.ofString "fail") 2314].toArray, #[]⟩,
  ⟨.type "tuple", none, .seq [.str (Str.ofString "inx") 2315, .int 0 2316].toArray, #[]⟩,
  ⟨.type "tuple", none, .seq [.str (Str.ofString "iny") 2317, .int 0 2318].toArray, #[]⟩,
  ⟨.type "tuple", none, .seq [.str (Str.ofString "jmp") 2319, .str (Str.ofString "match") 2320].toArray, #[]⟩,
  ⟨.type "tuple", none, .seq [.str (Str.ofString "at") 2321, .str (Str.ofString "any") 2322].toArray, #[]⟩,
  ⟨.type "tuple", none, .seq [.str (Str.ofString "lday") 2323, .int 1056 2324].toArray, #[]⟩,
  ⟨.type "tuple", none, .seq [.str (Str.ofString "beq") 2325, .str (Str.ofString "fail") 2326].toArray, #[]⟩,
  ⟨.type "tuple", none, .seq [.str (Str.ofString "inx") 2327, .int 0 2328].toArray, #[]⟩,
  ⟨.type "tuple", none, .seq [.str (Str.ofString "iny") 2329, .int 0 2330].toArray, #[]⟩,
  ⟨.type "tuple", none, .seq [.str (Str.ofString "jmp") 2331, .str (Str.ofString "match") 2332].toArray, #[]⟩,
  ⟨.type "tuple", none, .seq [.str (Str.ofString "at") 2333, .str (Str.ofString "star") 2334].toArray, #[]⟩,
  ⟨.type "tuple", none, .seq [.str (Str.ofString "txa") 2335, .int 0 2336].toArray, #[]⟩,
  ⟨.type "tuple", none, .seq [.str (Str.ofString "pha") 2337, .int 0 2338].toArray, #[]⟩,
  ⟨.type "tuple", none, .seq [.str (Str.ofString "tya") 2339, .int 0 2340].toArray, #[]⟩,
  ⟨.type "tuple", none, .seq [.str (Str.ofString "pha") 2341, .int 0 2342].toArray, #[]⟩,
  ⟨.type "tuple", none, .seq [.str (Str.ofString "inx") 2343, .int 0 2344].toArray, #[]⟩,
  ⟨.type "tuple", none, .seq [.str (Str.ofString "jsr") 2345, .str (Str.ofString "match") 2346].toArray, #[]⟩,
  ⟨.type "tuple", none, .seq [.str (Str.ofString "pla") 2347, .int 0 2348].toArray, #[]⟩,
  ⟨.type "tuple", none, .seq [.str (Str.ofString "tay") 2349, .int 0 2350].toArray, #[]⟩,
  ⟨.type "tuple", none, .seq [.str (Str.ofString "pla") 2351, .int 0 2352].toArray, #[]⟩,
  ⟨.type "tuple", none, .seq [.str (Str.ofString "tax") 2353, .int 0 2354].toArray, #[]⟩,
  ⟨.type "tuple", none, .seq [.str (Str.ofString "bcs") 2355, .str (Str.ofString "out") 2356].toArray, #[]⟩,
  ⟨.type "tuple", none, .seq [.str (Str.ofString "lday") 2357, .int 1056 2358].toArray, #[]⟩,
  ⟨.type "tuple", none, .seq [.str (Str.ofString "beq") 2359, .str (Str.ofString "fail") 2360].toArray, #[]⟩,
  ⟨.type "tuple", none, .seq [.str (Str.ofString "iny") 2361, .int 0 2362].toArray, #[]⟩,
  ⟨.type "tuple", none, .seq [.str (Str.ofString "jmp") 2363, .str (Str.ofString "match") 2364].toArray, #[]⟩,
  ⟨.type "tuple", none, .seq [.str (Str.ofString "at") 2365, .str (Str.ofString "end") 2366].toArray, #[]⟩,
  ⟨.type "tuple", none, .seq [.str (Str.ofString "lday") 2367, .int 1056 2368].toArray, #[]⟩,
  ⟨.type "tuple", none, .seq [.str (Str.ofString "beq") 2369, .str (Str.ofString "yes") 2370].toArray, #[]⟩,
  ⟨.type "tuple", none, .seq [.str (Str.ofString "at") 2371, .str (Str.ofString "fail") 2372].toArray, #[]⟩,
  ⟨.type "tuple", none, .seq [.str (Str.ofString "clc") 2373, .int 0 2374].toArray, #[]⟩,
  ⟨.type "tuple", none, .seq [.str (Str.ofString "rts") 2375, .int 0 2376].toArray, #[]⟩,
  ⟨.type "tuple", none, .seq [.str (Str.ofString "at") 2377, .str (Str.ofString "yes") 2378].toArray, #[]⟩,
  ⟨.type "tuple", none, .seq [.str (Str.ofString "sec") 2379, .int 0 2380].toArray, #[]⟩,
  ⟨.type "tuple", none, .seq [.str (Str.ofString "at") 2381, .str (Str.ofString "out") 2382].toArray, #[]⟩,
  ⟨.type "tuple", none, .seq [.str (Str.ofString "rts") 2383, .int 0 2384].toArray, #[]⟩,
  ⟨.type "tuple", none, .seq [.str (Str.ofString "at") 2385, .str (Str.ofString "stop") 2386].toArray, #[]⟩,
  ⟨.type "list", none, .seq lateL1521.toArray, #[]⟩,
  ⟨.type "tuple", none, .seq [].toArray, #[]⟩,
  ⟨.none, none, .fields [].toArray, #[]⟩,
  ⟨.type "tuple", none, .seq [.str (Str.ofString "rows") 2391, .str (Str.ofString "origin") 2392, .str (Str.ofString "spots") 2393, .str (Str.ofString "at") 2394, .str (Str.ofString "name") 2395, .str (Str.ofString "operand") 2396, .str (Str.ofString "octets") 2397, .str (Str.ofString "value") 2398].toArray, #[]⟩,
  ⟨.type "tuple", none, .seq [].toArray, #[]⟩,
  ⟨.none, none, .func (fnRec 10), #[]⟩,
  ⟨.type "code", none, .fields [.str (Str.ofString "_law_build") 2388, .str (Str.ofString "_law_build") 2389, .str (Str.ofString "/claim/cut.py") 2390, .int 1042 0, .int 2 0, .int 0 0, .int 0 0, .int 3 0, .ref 1522, .bool true, .int 181 0, .ref 1523, .none, .ref 1524, .ref 1525, .ref 1526, .int 2399 0, .int 1042 0, .str (Str.ofString "/claim/cut.py") 2400].toArray, #[]⟩,
  ⟨.type "function", none, .func { fnRec 10 with globals := 3, pyModule := .str (Str.ofString "law_im0095_04") 2249, code := .ref 1527 }, #[]⟩,
  ⟨.type "tuple", none, .seq [].toArray, #[]⟩,
  ⟨.none, none, .fields [].toArray, #[]⟩,
  ⟨.none, none, .func (fnRec 11), #[]⟩,
  ⟨.type "code", none, .fields [.str (Str.ofString "law") 2402, .str (Str.ofString "law") 2403, .str (Str.ofString "/claim/cut.py") 2404, .int 1067 0, .int 1 0, .int 0 0, .int 0 0, .int 3 0, .ref 1529, .bool true, .int 181 0, .ref 1530, .none, .none, .none, .ref 1531, .int 2405 0, .int 1067 0, .str (Str.ofString "/claim/cut.py") 2406].toArray, #[]⟩,
  ⟨.type "function", none, .func { fnRec 11 with globals := 3, pyModule := .str (Str.ofString "law_im0095_04") 2249, code := .ref 1532 }, #[]⟩]
noncomputable def glob (P : Params) : Obj := ⟨.type "dict", none, .dict [entS P "__name__" 165 (.str (Str.ofString "law_im0095_04") 2249), entS P "__doc__" 166 (.none), entS P "__package__" 167 (.none), entS P "__loader__" 168 (.builtin "__main__.__loader__#opaque"), entS P "__spec__" 169 (.none), entS P "__annotations__" 170 (.ref 6), entS P "__builtins__" 171 (.ref 4), entS P "__file__" 173 (.str (Str.ofString "/claim/cut.py") 172), entS P "__cached__" 174 (.none), entS P "_wall" 193 (.ref 21), entS P "MPU" 2248 (.ref 1428), entS P "_law_one" 2256 (.ref 1439), entS P "_law_two" 2262 (.ref 1446), entS P "_law_three" 2268 (.ref 1453), entS P "_law_near" 2274 (.ref 1460), entS P "_law_more" 2280 (.ref 1467), entS P "_law_rows" 2387 (.ref 1521), entS P "_law_build" 2401 (.ref 1528), entS P "law" 2407 (.ref 1533)].toArray 19, #[]⟩
noncomputable def tab12 : Obj := noneO [.int 1 0, .int 0 0, .ref 20, .int 5 0, .int 0 0, .ref 27, .int 1031 0, .int 0 0, .ref 1438, .int 1033 0, .int 0 0, .ref 1445, .int 1035 0, .int 0 0, .ref 1452, .int 1037 0, .int 0 0, .ref 1459, .int 1039 0, .int 0 0, .ref 1466, .int 1042 0, .int 0 0, .ref 1527, .int 1067 0, .int 0 0, .ref 1532]
noncomputable def finL (P : Params) : List Obj := [
  boot_o_0 P,
  boot_o_1 P,
  boot_o_2 P,
  glob P,
  boot_o_4 P,
  boot_o_5 P,
  boot_o_6 P,
  boot_o_7 P,
  boot_o_8 P,
  boot_o_9 P,
  boot_o_10 P,
  ⟨.type "tuple", none, .seq [].toArray, #[]⟩,
  tab12,
  ⟨.type "code", none, .fields [.str (Str.ofString "<module>") 182, .str (Str.ofString "<module>") 183, .str (Str.ofString "/claim/cut.py") 184, .int 1 0, .int 0 0, .int 0 0, .int 0 0, .int 0 0, .ref 11, .bool false, .int 181 0, .ref 12, .none, .none, .none, .none, .int 185 0, .int 1 0, .str (Str.ofString "/claim/cut.py") 186].toArray, #[]⟩,
  ⟨.type "frame", none, .plain, [some (.ref 13), some (.ref 3), some (.ref 3), none, some (.str (Str.ofString "__main__") 164), none, some (.ref 0)].toArray⟩,
  ⟨.type "tuple", none, .seq [].toArray, #[]⟩,
  ⟨.none, none, .fields [].toArray, #[]⟩,
  ⟨.type "tuple", none, .seq [.str (Str.ofString "k") 190].toArray, #[]⟩,
  ⟨.type "tuple", none, .seq [].toArray, #[]⟩,
  ⟨.none, none, .func (fnRec 0), #[]⟩,
  ⟨.type "code", none, .fields [.str (Str.ofString "_wall") 187, .str (Str.ofString "_wall") 188, .str (Str.ofString "/claim/cut.py") 189, .int 1 0, .int 1 0, .int 0 0, .int 0 0, .int 3 0, .ref 15, .bool true, .int 181 0, .ref 16, .none, .ref 17, .ref 18, .ref 19, .int 191 0, .int 1 0, .str (Str.ofString "/claim/cut.py") 192].toArray, #[]⟩,
  ⟨.type "function", none, .func { fnRec 0 with globals := 3, pyModule := .str (Str.ofString "__main__") 164, code := .ref 20 }, #[]⟩,
  ⟨.type "tuple", none, .seq [].toArray, #[]⟩,
  ⟨.type "builtin_function_or_method", none, .fields [.builtin "type.__prepare__", .type "type"].toArray, #[]⟩,
  ⟨.type "dict", none, .dict (esAll P).toArray 221, #[]⟩,
  ⟨.type "tuple", none, .seq [].toArray, #[]⟩,
  noneO (defMade P 29 238 ((clsBody.drop 15).take 199)).tab,
  ⟨.type "code", none, .fields [.str (Str.ofString "MPU") 198, .str (Str.ofString "MPU") 199, .str (Str.ofString "/claim/cut.py") 200, .int 5 0, .int 0 0, .int 0 0, .int 0 0, .int 0 0, .ref 25, .bool false, .int 181 0, .ref 26, .none, .none, .none, .none, .int 201 0, .int 5 0, .str (Str.ofString "/claim/cut.py") 202].toArray, #[]⟩,
  ⟨.type "frame", none, .plain, [some (.ref 27), some (.ref 3), some (.ref 24), none, some (.str (Str.ofString "py65.devices.mpu6502") 194), none, some (.ref 0)].toArray⟩] ++ (defMade P 29 238 ((clsBody.drop 15).take 199)).objs ++ lateO P
noncomputable def Sf (w : World) (os : OsState) : SharedT := ⟨btL 20 (finL w.params), 1534, (boot_heap w.params).life, #[], boot_drawn, 2408, os⟩
end Mine
/-! text HC0 -/
open PySem PySem.W PyProof.Rows
set_option Elab.async false
set_option maxRecDepth 100000
set_option maxHeartbeats 0
namespace Mine
theorem ch0 (w : World) (os : OsState) : segG okT (stT w) 2 3000 (Sk w os (defsK w 0) 29 238) (piecesT ((clsBody.drop 15).take 70) envC codeC (qn w os) (Bc w os)) = some (.next, Sk w os (defsK w 70) 520 806, codeC, posK 70) := by kernel_rfl
end Mine
/-! text HC70 -/
open PySem PySem.W PyProof.Rows
set_option Elab.async false
set_option maxRecDepth 100000
set_option maxHeartbeats 0
namespace Mine
theorem ch70 (w : World) (os : OsState) : segG okT (stT w) 2 3000 (Sk w os (defsK w 70) 520 806) (piecesT (((clsBody.drop 15).drop 70).take 65) envC codeC (posK 70) (Bc w os)) = some (.next, Sk w os (defsK w 135) 975 1262, codeC, posK 135) := by kernel_rfl
end Mine
/-! text HC135 -/
open PySem PySem.W PyProof.Rows
set_option Elab.async false
set_option maxRecDepth 100000
set_option maxHeartbeats 0
namespace Mine
theorem ch135 (w : World) (os : OsState) : segG okT (stT w) 2 3000 (Sk w os (defsK w 135) 975 1262) (piecesT (((clsBody.drop 15).drop 135).take 64) envC codeC (posK 135) (Bc w os)) = some (.next, Sk w os (defsK w 199) 1423 1710, codeC, posK 199) := by kernel_rfl
end Mine
/-! text HY -/
open PySem PySem.W PyProof.Rows
set_option Elab.async false
set_option maxRecDepth 100000
set_option maxHeartbeats 0
namespace Mine
theorem chF (w : World) (os : OsState) : topG okT (stT w) 6000 (Sk w os (defsK w 199) 1423 1710) (Tf w os) = some (Sf w os) := by kernel_rfl
end Mine
/-! text HZ -/
open PySem PySem.W PyProof.Rows
set_option Elab.async false
set_option maxRecDepth 100000
set_option maxHeartbeats 0
namespace Mine
noncomputable def H1 (P : Params) : Heap := ⟨(finL P).toArray, (boot_heap P).life⟩
theorem abs_f (w : World) (os : OsState) : (Sf w os).abs = ⟨H1 w.params, #[], boot_drawn, 2408, os⟩ := by kernel_rfl
noncomputable def q : Program := view pw [11]
noncomputable def looseQ : List Str := ["_wall", "MPU", "_law_one", "_law_two", "_law_three", "_law_near", "_law_more", "_law_rows", "_law_build"]
noncomputable def XtQ (s : Shared) : Bool := xlAt q [] s && recOk [] s
theorem look1 (w : World) (os : OsState) : (staticsOk (importedModules pw.main.body) (boot_heap w.params) (H1 w.params) && namesBound pw (H1 w.params) && gensDone ⟨H1 w.params, #[], boot_drawn, 2408, os⟩ && laidKept (boot_heap w.params) (H1 w.params)) = true := by kernel_rfl
theorem look2 (w : World) (os : OsState) : openSeen q looseQ (importedModules pw.main.body) XtQ true ⟨H1 w.params, #[], boot_drawn, 2408, os⟩ = openGood q looseQ := by
  rw [PySem.W.Fast.te4187177175401517315]
  kernel_rfl
end Mine
/-! text HL1 -/
open PySem PySem.W PyProof.Rows
set_option Elab.async false
set_option maxRecDepth 100000
set_option maxHeartbeats 0
namespace Mine
theorem seg_of {w : World} {os : OsState} {n : Nat} {S S' : SharedT} {t t' : Thread} {c : Code} {p : Pos} (e : t' = t) (h : segG okT (stT w) 2 n S t = some (.next, S', c, p)) :
    segRun treeTable pw w 11 (some (.ref 6)) (Bc w os).length n S.abs t' = some (.next, S'.abs, c, p) := by
  rw [Bc_len, e]
  rw [← okT_eq, ← stT_eq, segG_eq] at h
  exact segRun_of h
theorem pb_run (w : World) (os : OsState) : segG okT (stT w) 2 2000 (Pd w os).1 (blockOf clsBody envC codeC clsPos (Bc w os)) = some (.next, Sb w os, codeC, qb w os) := pb w os
theorem pn_run (w : World) (os : OsState) : segG okT (stT w) 2 2000 (Sb w os) (piecesT (clsBody.take 15) envC codeC (qb w os) (Bc w os)) = some (.next, Sk w os (defsK w 0) 29 238, codeC, qn w os) := by
  have := pn w os
  rw [test0] at this
  exact this
theorem body_split : clsBody = clsBody.take 15 ++ (((clsBody.drop 15).take 70) ++ ((((clsBody.drop 15).drop 70).take 65) ++ ((((clsBody.drop 15).drop 135).take 64) ++ clsBody.drop 214))) := by
  have e1 : clsBody.drop 214 = ((clsBody.drop 15).drop 135).drop 64 := by rw [List.drop_drop, List.drop_drop]
  have e2 : (clsBody.drop 15).drop 135 = ((clsBody.drop 15).drop 70).drop 65 := by rw [List.drop_drop, List.drop_drop, List.drop_drop]
  rw [e1, List.take_append_drop, e2, List.take_append_drop, List.take_append_drop, List.take_append_drop]
theorem opens : opening pw = plainProg pw.main.scope.names := by kernel_rfl
theorem fences (s : Shared) : fenceModules? pw s = some s := by kernel_rfl
theorem size0 (w : World) : ((boot_heap w.params).isNs mainGlobals && (#[] : Array GenState).size == 0, (boot_heap w.params).objs.size, (boot_heap w.params).nsMap mainGlobals "__annotations__") = (true, 11, some (.ref 6)) := by kernel_rfl
end Mine
/-! text HL2 -/
open PySem PySem.W PyProof.Rows
set_option Elab.async false
set_option maxRecDepth 100000
set_option maxHeartbeats 0
namespace Mine
noncomputable def endS (w : World) (os : OsState) : Shared := ⟨H1 w.params, #[], boot_drawn, 2408, os⟩
abbrev runs (w : World) (os : OsState) (n : Nat) (s : Shared) (t : Thread) : Prop := topRun treeTable pw w 11 (some (.ref 6)) n s t = some (endS w os)
theorem r5 (w : World) (os : OsState) : runs w os 6000 (Sk w os (defsK w 199) 1423 1710).abs (restOf (clsBody.drop 214) envC codeC (posK 199) (Bc w os)) := by
  have h2 := chF w os
  unfold Tf at h2
  rw [← restT_eq, ← okT_eq, ← stT_eq] at h2
  have g2 := topG_of h2
  rw [abs_f] at g2
  exact g2
theorem r4 (w : World) (os : OsState) : runs w os (3000 + 6000) (Sk w os (defsK w 135) 975 1262).abs (restOf ((((clsBody.drop 15).drop 135).take 64) ++ clsBody.drop 214) envC codeC (posK 135) (Bc w os)) :=
  body_app (Bc_split w os) (seg_of (piecesT_eq ..) (ch135 w os)) (r5 w os)
theorem r3 (w : World) (os : OsState) : runs w os (3000 + (3000 + 6000)) (Sk w os (defsK w 70) 520 806).abs (restOf ((((clsBody.drop 15).drop 70).take 65) ++ ((((clsBody.drop 15).drop 135).take 64) ++ clsBody.drop 214)) envC codeC (posK 70) (Bc w os)) :=
  body_app (Bc_split w os) (seg_of (piecesT_eq ..) (ch70 w os)) (r4 w os)
theorem r2 (w : World) (os : OsState) : runs w os (3000 + (3000 + (3000 + 6000))) (Sk w os (defsK w 0) 29 238).abs (restOf (((clsBody.drop 15).take 70) ++ ((((clsBody.drop 15).drop 70).take 65) ++ ((((clsBody.drop 15).drop 135).take 64) ++ clsBody.drop 214))) envC codeC (qn w os) (Bc w os)) :=
  body_app (Bc_split w os) (seg_of (piecesT_eq ..) (ch0 w os)) (r3 w os)
theorem r1 (w : World) (os : OsState) : runs w os (2000 + (3000 + (3000 + (3000 + 6000)))) (Sb w os).abs (restOf clsBody envC codeC (qb w os) (Bc w os)) := by
  have h := body_app (Bc_split w os) (seg_of (piecesT_eq ..) (pn_run w os)) (r2 w os)
  rw [← body_split] at h
  exact h
theorem r0 (w : World) (os : OsState) : runs w os (2000 + (2000 + (3000 + (3000 + (3000 + 6000))))) (Pd w os).1.abs ⟨denote treeTable (.body clsBody envC), codeC, clsPos, Bc w os⟩ :=
  body_start (Bc_split w os) (seg_of rfl (pb_run w os)) (r1 w os)
theorem run_top (w : World) (os : OsState) : runs w os (109 + (2000 + (2000 + (3000 + (3000 + (3000 + 6000)))))) ⟨boot_heap w.params, #[], boot_drawn, boot_toks, os⟩ (topStub pw) := by
  have h1 := pro w os
  rw [← okT_eq, ← stT_eq, ← dn_eq] at h1
  have g1 := goG_of h1
  rw [S0_abs] at g1
  exact go_top g1 (r0 w os)
theorem left {α : Type} {Yf : Shared → α} {Ya : World → α} (hY : ∀ w os, Yf (endS w os) = Ya w) : LeftO pw q looseQ XtQ Yf Ya 20000 :=
  LeftO.of_pieces (H₀ := boot_heap) (H₁ := H1) (gs₀ := #[]) (gs₁ := #[]) (d₀ := boot_drawn) (d₁ := boot_drawn) (k₀ := boot_toks) (k₁ := 2408) (m₀ := 11) (ann := some (.ref 6)) (M := 109 + (2000 + (2000 + (3000 + (3000 + (3000 + 6000))))))
    (boot_open opens (by decide) fences) size0 run_top (by decide) fun w => funext fun os => Prod.ext (look1 w os) (Prod.ext (look2 w os) (hY w os))
end Mine
/-! text HH -/
open PySem PySem.W PyProof.Rows
set_option Elab.async false
set_option maxRecDepth 100000
set_option maxHeartbeats 0
namespace Mine
noncomputable def Kas : List Nat := [1, 2, 3, 29, 35, 36, 42, 43, 49, 50, 70, 71, 77, 78, 91, 92, 98, 99, 105, 106, 140, 141, 147, 148, 154, 155, 161, 162, 168, 169, 175, 176, 182, 183, 189, 190, 196, 197, 224, 225, 231, 232, 238, 239, 245, 246, 266, 267, 294, 295, 315, 316, 343, 344, 350, 351, 357, 358, 462, 463, 490, 491, 539, 540, 595, 596, 651, 652, 672, 673, 749, 750, 777, 778, 889, 890, 910, 911, 973, 974, 1001, 1002, 1015, 1016, 1043, 1044, 1050, 1051, 1057, 1058, 1085, 1086, 1127, 1128, 1148, 1149, 1197, 1198, 1204, 1205, 1239, 1240, 1274, 1275, 1330, 1331, 1372, 1373, 1423, 1424, 1425, 1427, 1428, 1438, 1439, 1445, 1446, 1452, 1453, 1459, 1460, 1466, 1467, 1468, 1469, 1470, 1471, 1472, 1473, 1474, 1475, 1476, 1477, 1478, 1479, 1480, 1481, 1482, 1483, 1484, 1485, 1486, 1487, 1488, 1489, 1490, 1491, 1492, 1493, 1494, 1495, 1496, 1497, 1498, 1499, 1500, 1501, 1502, 1503, 1504, 1505, 1506, 1507, 1508, 1509, 1510, 1511, 1512, 1513, 1514, 1515, 1516, 1517, 1518, 1519, 1520, 1521, 1527, 1528, 1532, 1533]
noncomputable def pick : List Nat → Nat → List Obj → Frag
  | _, _, [] => []
  | [], _, _ => []
  | a :: as, i, o :: os => match Nat.beq a i with
    | true => (a, o) :: pick as (i + 1) os
    | false => pick (a :: as) (i + 1) os
theorem pick_at : ∀ (as : List Nat) (i : Nat) (os : List Obj), ∀ p ∈ pick as i os, i ≤ p.1 ∧ os[p.1 - i]? = some p.2
  | _, _, [], p, h => by unfold pick at h; cases h
  | [], i, o :: os, p, h => by unfold pick at h; cases h
  | a :: as, i, o :: os, p, h => by
    unfold pick at h
    have up : ∀ q : Nat × Obj, i + 1 ≤ q.1 ∧ os[q.1 - (i + 1)]? = some q.2 → i ≤ q.1 ∧ (o :: os)[q.1 - i]? = some q.2 := by
      rintro q ⟨h1, h2⟩
      refine ⟨by omega, ?_⟩
      rw [show q.1 - i = (q.1 - (i + 1)) + 1 by omega, List.getElem?_cons_succ]
      exact h2
    cases e : Nat.beq a i with
    | true =>
      rw [e] at h
      rcases List.mem_cons.mp h with rfl | h
      · have := Nat.eq_of_beq_eq_true e
        subst this
        exact ⟨Nat.le_refl _, by simp⟩
      · exact up p (pick_at as (i + 1) os p h)
    | false =>
      rw [e] at h
      exact up p (pick_at (a :: as) (i + 1) os p h)
noncomputable def K (P : Params) : Frag := pick Kas 0 (finL P)
theorem Kas_eq (P : Params) : Kas = (K P).map (·.1) := by kernel_rfl
theorem K_live (P : Params) : (K P).all (fun p => !p.2.isFreed) = true := by kernel_rfl
theorem get_live {h : Heap} {a : Nat} {o : Obj} (e : h.objs[a]? = some o) (f : o.isFreed = false) : h.get? a = some o := by
  unfold Heap.get?
  rw [e]
  obtain ⟨c, d, dt, sl⟩ := o
  cases dt <;> first | rfl | cases f
theorem K_at (P : Params) : ∀ p ∈ K P, (H1 P).get? p.1 = some p.2 := fun p hp => by
  have h := (pick_at Kas 0 (finL P) p hp).2
  refine get_live ?_ ?_
  · show (finL P).toArray[p.1]? = some p.2
    rw [List.getElem?_toArray]
    exact h
  · have := List.all_eq_true.mp (K_live P) p hp
    simpa using this
theorem hookY (w : World) (os : OsState) : (kHook K Kas Kas_eq).obs (endS w os) = (kHook K Kas Kas_eq).val w := by
  show Kas.map (H1 w.params).get? = (K w.params).map fun p => some p.2
  rw [Kas_eq w.params, List.map_map]
  exact List.map_congr_left fun p hp => K_at w.params p hp
abbrev rw4 : OpenRow := PySem.Challenge.rw_im0095_04.row
noncomputable def dLaw : DefRec := ((defOf q rw4.name).map (·.1)).getD ⟨default, default, default, default, default⟩
theorem hdef : defOf q rw4.name = some (dLaw, []) := by kernel_rfl
theorem hthe : rw4.prog.theDef rw4.name = some (dLaw.params, dLaw.body, dLaw.scope) := by kernel_rfl
theorem hkw : kwWritten? dLaw.params.kwonlyargs dLaw.params.kw_defaults = some [] := by kernel_rfl
theorem ok1 : (chainsOk q && opensWell rw4.prog && (frees rw4.toRowW && rw4.within.isEmpty)) = true := by kernel_rfl
theorem bare : rw4.prog.bare := ⟨rfl, rfl, rfl, rfl, rfl, tabs⟩
theorem hd1 (said : rw4.wellSaid = true) (W : WalkO q looseQ (XL q []) (kHook K Kas Kas_eq).says rw4.toRowW dLaw [] (fun f vs => PySem.call f vs)) : rw4.Holds := by
  exact PySem.W.holds_open (q := q) (loose := looseQ) (Xt := XtQ) (XP := XL q []) (Yf := (kHook K Kas Kas_eq).obs) (Ya := (kHook K Kas Kas_eq).val) (YP := (kHook K Kas Kas_eq).says) (N := 20000) (left hookY) (kHook K Kas Kas_eq).of (kHook K Kas Kas_eq).keeps
    (fun s e => xl_of s (Bool.and_eq_true_iff.mp e).1) XL.keeps hdef hthe hkw (fun s e => recFacts_of (Bool.and_eq_true_iff.mp e).2) rfl said ok1 bare (by w_witness2) W
theorem hd (W : WalkO q looseQ (XL q []) (kHook K Kas Kas_eq).says rw4.toRowW dLaw [] (fun f vs => PySem.call f vs)) : PySem.Challenge.rw_im0095_04.Holds := holds_law said fun s => hd1 s W
end Mine
/-! text T4 -/
open PySem PySem.W PyProof.Rows PySem.Spec PySem.Calls
set_option Elab.async false
set_option maxRecDepth 100000
set_option maxHeartbeats 0
namespace Mine
/-! the table of the class -/
noncomputable def fnOfDef (a0 : Nat) : Stmt → Option Fn
  | .FunctionDef name args body _ _ _ scope _ _ _ => some { a := a0 + 6, name, qual := Str.ofString "MPU." ++ name, params := args, body, cs := scope, dV := .none, kV := .none, doc := .none, pm := modV, an := none, cd := .ref (a0 + 5), ct := .none, xs := args.args.map (·.arg), rest := (scope.names.filter fun p => p.2 == .local && !(args.args.map (·.arg)).contains p.1).map (·.1) }
  | _ => none
noncomputable def hasDflt : Stmt → Bool
  | .FunctionDef _ args _ _ _ _ _ _ _ _ => !args.defaults.isEmpty
  | _ => false
noncomputable def frcN {α : Type} (n : Nat) (f : Nat → α) : α := match n with
  | 0 => f 0
  | k + 1 => f (k + 1)
noncomputable def fnsFrom : Nat → List Stmt → List Fn
  | _, [] => []
  | a, st :: r => frcN a fun a => match hasDflt st with
    | true => fnsFrom (a + 8) r
    | false => match fnOfDef a st with
      | some F => F :: fnsFrom (a + 7) r
      | none => []
noncomputable def isIn (l : List Nat) (a : Nat) : Bool := match l with
  | [] => false
  | b :: r => match Nat.beq b a with
    | true => true
    | false => isIn r a
noncomputable def keepFns (l : List Nat) : List Fn → List Fn
  | [] => []
  | F :: r => match isIn l F.a with
    | true => F :: keepFns l r
    | false => keepFns l r
noncomputable def fnsC : List Fn := keepFns Kas (fnsFrom 29 (clsBody.drop 15))
noncomputable def numT : List (Str × Int × Nat) := [(Str.ofString "RESET", 65532, 208), (Str.ofString "NMI", 65530, 210), (Str.ofString "IRQ", 65534, 212), (Str.ofString "NEGATIVE", 128, 214), (Str.ofString "OVERFLOW", 64, 216), (Str.ofString "UNUSED", 32, 218), (Str.ofString "BREAK", 16, 220), (Str.ofString "DECIMAL", 8, 222), (Str.ofString "INTERRUPT", 4, 224), (Str.ofString "ZERO", 2, 226), (Str.ofString "CARRY", 1, 228), (Str.ofString "BYTE_WIDTH", 8, 230), (Str.ofString "ADDR_WIDTH", 16, 234)]
noncomputable def refsOf (l : List Value) : List Addr := l.filterMap fun v => match v with
  | .ref a => some a
  | _ => none
noncomputable def intsOf (l : List Value) : List Int := l.filterMap fun v => match v with
  | .int i _ => some i
  | _ => none
noncomputable def T4 : Tab where
  C := 1428
  own := [Str.ofString "name", Str.ofString "byteMask", Str.ofString "addrMask", Str.ofString "addrHighMask", Str.ofString "spBase", Str.ofString "excycles", Str.ofString "addcycles", Str.ofString "processorCycles", Str.ofString "memory", Str.ofString "start_pc", Str.ofString "pc", Str.ofString "sp", Str.ofString "a", Str.ofString "x", Str.ofString "y", Str.ofString "p"]
  nums := numT.map fun p => (p.1, p.2.1)
  refs := [(Str.ofString "instruct", 1423), (Str.ofString "cycletime", 1424), (Str.ofString "extracycles", 1425)]
  meths := fnsC.map fun F => (F.name, F.a)
  globs := []
  blts := []
  fns := fnsC
  lists := [(1423, .refs (refsOf lateL1423)), (1424, .nums (intsOf lateL1424)), (1425, .nums (intsOf lateL1425))]
theorem all_of {α : Type} {l : List α} {f : α → Bool} (h : l.all f = true) : ∀ x ∈ l, f x = true := List.all_eq_true.mp h
theorem map_of {α β : Type} {l : List α} {f g : α → β} (h : l.map f = l.map g) : ∀ x ∈ l, f x = g x := List.map_inj_left.mp h
theorem t_own (P : Params) : (T4.own.all fun x => ownName (K P) 1428 x && setName (K P) 1428 x) = true := by kernel_rfl
theorem t_nums (P : Params) : (numT.all fun p => clsName (K P) 1428 p.1 (.int p.2.1 p.2.2)) = true := by kernel_rfl
theorem t_refs (P : Params) : (T4.refs.all fun p => clsName (K P) 1428 p.1 (.ref p.2)) = true := by kernel_rfl
theorem t_meths (P : Params) : (T4.meths.all fun p => methName (K P) 1428 p.1 p.2) = true := by kernel_rfl
theorem t_keep (P : Params) : (fnsC.all fun F => keepIn (K P) (.ref F.a) && fnIn (K P) F.a && codeIn (K P) F.cd F.qual) = true := by kernel_rfl
theorem t_at (P : Params) : (fnsC.map fun F => (K P).lookup F.a) = fnsC.map fun F => some F.obj := by kernel_rfl
noncomputable def scOk (F : Fn) : Bool := (F.xs.all fun y => F.cs.names.lookup y == some .local) && (F.cs.names.all fun y => y.2 != .cell) && !F.cs.isCoroutine && !F.cs.isGenerator && (F.cs.kind == .function) && decide (F.xs ++ F.rest).Nodup && Nat.ble F.xs.length 4
theorem t_sc : (fnsC.all scOk) = true := by kernel_rfl
theorem t_bind : (fnsC.map fun F => fun (v w x y : Value) => bindArgs F.data ⟨[v, w, x, y].take F.xs.length, []⟩) = fnsC.map fun F => fun v w x y => pure (F.xs.zip ([v, w, x, y].take F.xs.length)) := by kernel_rfl
theorem pad4 : ∀ {vs : List Value} {k : Nat}, vs.length = k → k ≤ 4 → ∃ v w x y, vs = [v, w, x, y].take k
  | [], _, h, _ => ⟨.none, .none, .none, .none, by subst h; rfl⟩
  | [v], _, h, _ => ⟨v, .none, .none, .none, by subst h; rfl⟩
  | [v, w], _, h, _ => ⟨v, w, .none, .none, by subst h; rfl⟩
  | [v, w, x], _, h, _ => ⟨v, w, x, .none, by subst h; rfl⟩
  | [v, w, x, y], _, h, _ => ⟨v, w, x, y, by subst h; rfl⟩
  | v :: w :: x :: y :: z :: r, k, h, h4 => by simp at h; omega
theorem fnsC_ok : ∀ F ∈ fnsC, FnOk K F ∧ ∀ P, keepIn (K P) (.ref F.a) = true ∧ fnIn (K P) F.a = true := by
  intro F hF
  have s := all_of t_sc F hF
  unfold scOk at s
  simp only [Bool.and_eq_true, Bool.not_eq_true', beq_iff_eq, decide_eq_true_eq, List.all_eq_true, bne_iff_ne] at s
  obtain ⟨⟨⟨⟨⟨⟨s1, s2⟩, s3⟩, s4⟩, s5⟩, s6⟩, s7⟩ := s
  have kp := fun P => all_of (t_keep P) F hF
  simp only [Bool.and_eq_true] at kp
  refine ⟨⟨fun P => map_of (t_at P) F hF, fun P => (kp P).2, fun vs hv => ?_, s1, s6, s2, s3, s4, s5⟩, fun P => (kp P).1⟩
  obtain ⟨v, w, x, y, rfl⟩ := pad4 hv (Nat.le_of_ble_eq_true s7)
  have := map_of t_bind F hF
  exact congrFun (congrFun (congrFun (congrFun this v) w) x) y
theorem t_l1 (P : Params) : (K P).lookup 1423 = some (⟨.type "list", none, .seq ((refsOf lateL1423).map Value.ref).toArray, #[]⟩ : Obj) := by kernel_rfl
theorem t_l2 (P : Params) : (K P).lookup 1424 = some (⟨.type "list", none, .seq lateL1424.toArray, #[]⟩ : Obj) := by kernel_rfl
theorem t_l3 (P : Params) : (K P).lookup 1425 = some (⟨.type "list", none, .seq lateL1425.toArray, #[]⟩ : Obj) := by kernel_rfl
theorem t_n2 : numsOf lateL1424 = some (intsOf lateL1424) := by kernel_rfl
theorem t_n3 : numsOf lateL1425 = some (intsOf lateL1425) := by kernel_rfl
theorem t_one (P : Params) : ((K P).lookup sysModules).isSome = true := by kernel_rfl
theorem T4_ok : TabOk K T4 where
  one := t_one
  own := fun x hx => ⟨fun P => (Bool.and_eq_true_iff.mp (all_of (t_own P) x hx)).1, fun P => (Bool.and_eq_true_iff.mp (all_of (t_own P) x hx)).2⟩
  nums := fun p hp => by
    obtain ⟨q, hq, rfl⟩ := List.mem_map.mp hp
    exact ⟨q.2.2, fun P => all_of (t_nums P) q hq⟩
  refs := fun p hp P => all_of (t_refs P) p hp
  meths := fun p hp P => all_of (t_meths P) p hp
  globs := fun _ h => nomatch h
  blts := fun _ h => nomatch h
  fns := fnsC_ok
  lists := fun p hp => by
    rcases List.mem_cons.mp hp with rfl | hp
    · exact t_l1
    · rcases List.mem_cons.mp hp with rfl | hp
      · exact ⟨_, t_n2, t_l2⟩
      · rcases List.mem_cons.mp hp with rfl | hp
        · exact ⟨_, t_n3, t_l3⟩
        · cases hp
end Mine
/-! text E1 -/
open PySem PySem.W PyProof.Rows PySem.Spec PySem.Calls
set_option Elab.async false
set_option maxRecDepth 100000
set_option maxHeartbeats 0
namespace Mine
/-! the machine; a step of it -/
structure M where
  a : Int
  x : Int
  y : Int
  sp : Int
  p : Int
  pc : Int
  mem : List Int
noncomputable def attrsM (m : M) (st : Int) (ex ad : AV) : List (Str × AV) := [(Str.ofString "name", .str (Str.ofString "6502")), (Str.ofString "byteMask", .cint 255), (Str.ofString "addrMask", .cint 65535), (Str.ofString "addrHighMask", .cint 65280), (Str.ofString "spBase", .cint 256), (Str.ofString "excycles", ex), (Str.ofString "addcycles", ad), (Str.ofString "processorCycles", .any), (Str.ofString "memory", .obj 0), (Str.ofString "start_pc", .int st), (Str.ofString "pc", .int m.pc), (Str.ofString "sp", .int m.sp), (Str.ofString "a", .int m.a), (Str.ofString "x", .int m.x), (Str.ofString "y", .int m.y), (Str.ofString "p", .int m.p)]
noncomputable def outM (m : M) (st : Int) (ex ad : AV) : List AO := [.il m.mem, .inst 1428 2, .attrs (attrsM m st ex ad)]
noncomputable def objM (m : M) (st : Int) : List AO := outM m st .any .top
noncomputable abbrev E := evN pw K T4
noncomputable def Stp (m m' : M) : Prop := ∀ st : Int, CallT pw K 25 43 [.obj 1] (objM m st) (.obj 1) (objM m' st)
noncomputable def stp (m : M) (st : Int) (o : Orc) := (E 25).c 43 [.obj 1] (objM m st) o
theorem stp_of {m m' : M} {o : Orc} {ex ad : Int} {junk : List AO} {g : List Prop} (e : ∀ st, stp m st o = some (.obj 1, outM m' st (.cint ex) (.cint ad) ++ junk, [], g)) (hg : ∀ p ∈ g, p) : Stp m m' := by
  intro st
  have h := ((evN_ok (prog := pw) T4_ok 25).c (e st) hg).1
  have h3 := h.drop 3 (Nat.le_refl _) rfl (by rfl)
  have w : WkOs (outM m' st (.cint ex) (.cint ad)) (objM m' st) := by
    refine .cons .refl (.cons .refl (.cons (WkEs.attrs ?_) .nil))
    exact .cons .refl (.cons .refl (.cons .refl (.cons .refl (.cons .refl (.cons .anyC (.cons .top .refl))))))
  exact h3.wk w
theorem Stp.to {m a b : M} (h : Stp m a) (e : a = b) : Stp m b := e ▸ h
noncomputable def inc (i : Int) : Int := Builtin.bitAnd (i + 1) 65535
noncomputable def get (mem : List Int) (i : Int) : Int := mem.getD i.toNat 0
end Mine
/-! text N1 -/
open PySem PySem.W PyProof.Rows
set_option Elab.async false
set_option maxRecDepth 100000
namespace Mine
/-! flags -/
noncomputable def Pf (n z c : Bool) : Int := 48 + (match n with | true => 128 | false => 0) + (match z with | true => 2 | false => 0) + (match c with | true => 1 | false => 0)
noncomputable def Pz (v : Int) (c : Bool) : Int := Pf (decide (128 ≤ v)) (v == 0) c
theorem and128_all : ∀ n : Fin 512, Builtin.bitAnd ((n.val : Int) - 256) 128 = (if 128 ≤ ((n.val : Int) - 256) % 256 then 128 else 0) := by decide +kernel
theorem and128 {d : Int} (h0 : -256 ≤ d) (h1 : d < 256) : Builtin.bitAnd d 128 = (if 128 ≤ d % 256 then 128 else 0) := by
  have h := and128_all ⟨(d + 256).toNat, by omega⟩
  have e : (((d + 256).toNat : Nat) : Int) - 256 = d := by omega
  rw [e] at h
  exact h
theorem and128v {v : Int} (h0 : 0 ≤ v) (h1 : v < 256) : Builtin.bitAnd v 128 = (if 128 ≤ v then 128 else 0) := by
  rw [and128 (by omega) h1, Int.emod_eq_of_lt h0 h1]
theorem p_nz (n z c k : Bool) : Builtin.bitOr (Builtin.bitAnd (Pf n z c) (Builtin.bitNot (Builtin.bitOr 2 128))) (match k with | true => 128 | false => 0) = Pf k false c := by
  cases n <;> cases z <;> cases c <;> cases k <;> decide +kernel
theorem p_nzT (n z c : Bool) : Builtin.bitOr (Builtin.bitAnd (Pf n z c) (Builtin.bitNot (Builtin.bitOr 2 128))) 2 = Pf false true c := by
  cases n <;> cases z <;> cases c <;> decide +kernel
theorem p_nzF {n z c : Bool} {v : Int} (h0 : 0 ≤ v) (h1 : v < 256) : Builtin.bitOr (Builtin.bitAnd (Pf n z c) (Builtin.bitNot (Builtin.bitOr 2 128))) (Builtin.bitAnd v 128) = Pf (decide (128 ≤ v)) false c := by
  rw [and128v h0 h1]
  by_cases h : 128 ≤ v
  · rw [if_pos h, decide_eq_true h]; exact p_nz n z c true
  · rw [if_neg h, decide_eq_false h]; exact p_nz n z c false
theorem p_clc (n z c : Bool) : Builtin.bitAnd (Pf n z c) (Builtin.bitNot 1) = Pf n z false := by
  cases n <;> cases z <;> cases c <;> decide +kernel
theorem p_sec (n z c : Bool) : Builtin.bitOr (Pf n z c) 1 = Pf n z true := by
  cases n <;> cases z <;> cases c <;> decide +kernel
theorem p_c (n z c : Bool) : (Builtin.bitAnd (Pf n z c) 1 != 0) = c := by
  cases n <;> cases z <;> cases c <;> decide +kernel
theorem p_z (n z c : Bool) : (Builtin.bitAnd (Pf n z c) 2 != 0) = z := by
  cases n <;> cases z <;> cases c <;> decide +kernel
theorem p_cmE (n z c k : Bool) : Builtin.bitOr (Builtin.bitOr (Builtin.bitAnd (Pf n z c) (Builtin.bitNot (Builtin.bitOr (Builtin.bitOr 1 2) 128))) (Builtin.bitOr 1 2)) (match k with | true => 128 | false => 0) = Pf k true true := by
  cases n <;> cases z <;> cases c <;> cases k <;> decide +kernel
theorem p_cmG (n z c k : Bool) : Builtin.bitOr (Builtin.bitOr (Builtin.bitAnd (Pf n z c) (Builtin.bitNot (Builtin.bitOr (Builtin.bitOr 1 2) 128))) 1) (match k with | true => 128 | false => 0) = Pf k false true := by
  cases n <;> cases z <;> cases c <;> cases k <;> decide +kernel
theorem p_cmL (n z c k : Bool) : Builtin.bitOr (Builtin.bitAnd (Pf n z c) (Builtin.bitNot (Builtin.bitOr (Builtin.bitOr 1 2) 128))) (match k with | true => 128 | false => 0) = Pf k false false := by
  cases n <;> cases z <;> cases c <;> cases k <;> decide +kernel
/-- the flags that a comparison of r with t leaves -/
noncomputable def Pc (r t : Int) : Int := Pf (decide (128 ≤ (r - t) % 256)) (r == t) (decide (t ≤ r))
theorem sub128 {r t : Int} (hr : 0 ≤ r ∧ r < 256) (ht : 0 ≤ t ∧ t < 256) : Builtin.bitAnd (r - t) 128 = (match decide (128 ≤ (r - t) % 256) with | true => 128 | false => 0) := by
  rw [and128 (by omega) (by omega)]
  by_cases h : 128 ≤ (r - t) % 256
  · rw [if_pos h, decide_eq_true h]
  · rw [if_neg h, decide_eq_false h]
theorem p_cE {n z c : Bool} {r t : Int} (hr : 0 ≤ r ∧ r < 256) (ht : 0 ≤ t ∧ t < 256) (h : (r == t) = true) : Builtin.bitOr (Builtin.bitOr (Builtin.bitAnd (Pf n z c) (Builtin.bitNot (Builtin.bitOr (Builtin.bitOr 1 2) 128))) (Builtin.bitOr 1 2)) (Builtin.bitAnd (r - t) 128) = Pc r t := by
  rw [sub128 hr ht, p_cmE]
  unfold Pc
  rw [h, decide_eq_true (p := t ≤ r) (by have := beq_iff_eq.mp h; omega)]
theorem p_cG {n z c : Bool} {r t : Int} (hr : 0 ≤ r ∧ r < 256) (ht : 0 ≤ t ∧ t < 256) (h : (r == t) = false) (h2 : decide (t < r) = true) : Builtin.bitOr (Builtin.bitOr (Builtin.bitAnd (Pf n z c) (Builtin.bitNot (Builtin.bitOr (Builtin.bitOr 1 2) 128))) 1) (Builtin.bitAnd (r - t) 128) = Pc r t := by
  rw [sub128 hr ht, p_cmG]
  unfold Pc
  rw [h, decide_eq_true (p := t ≤ r) (by have := of_decide_eq_true h2; omega)]
theorem p_cL {n z c : Bool} {r t : Int} (hr : 0 ≤ r ∧ r < 256) (ht : 0 ≤ t ∧ t < 256) (h : (r == t) = false) (h2 : decide (t < r) = false) : Builtin.bitOr (Builtin.bitAnd (Pf n z c) (Builtin.bitNot (Builtin.bitOr (Builtin.bitOr 1 2) 128))) (Builtin.bitAnd (r - t) 128) = Pc r t := by
  rw [sub128 hr ht, p_cmL]
  unfold Pc
  have e : r ≠ t := by simpa using h
  rw [h, decide_eq_false (p := t ≤ r) (by have := of_decide_eq_false h2; omega)]
theorem and255 (i : Int) : Builtin.bitAnd i 255 = i % 256 := bitAnd_m8 i
theorem and65535 (i : Int) : Builtin.bitAnd i 65535 = i % 65536 := bitAnd_m16 i
theorem or1_all : ∀ n : Fin 128, Builtin.bitOr ((n.val : Int) * 2) 1 = (n.val : Int) * 2 + 1 := by decide +kernel
theorem xor255_all : ∀ n : Fin 256, Builtin.bitXor (n.val : Int) 255 = 255 - (n.val : Int) := by decide +kernel
theorem xor255 {v : Int} (h0 : 0 ≤ v) (h1 : v < 256) : Builtin.bitXor v 255 = 255 - v := by
  have h := xor255_all ⟨v.toNat, by omega⟩
  have e : ((v.toNat : Nat) : Int) = v := by omega
  rw [e] at h
  exact h
end Mine
/-! text S4 -/
open PySem PySem.W PyProof.Rows PySem.Spec PySem.Calls
set_option Elab.async false
set_option maxRecDepth 100000
set_option maxHeartbeats 0
namespace Mine
/-! the steps: the contract of each opcode that is reached -/
structure Fetch (mem : List Int) (pc op : Int) : Prop where
  lo : 0 ≤ pc
  hi : pc + 2 < mem.length
  sz : (mem.length : Int) ≤ 60000
  op : get mem pc = op
theorem gc {a : Prop} {l : List Prop} (h : a) (t : ∀ p ∈ l, p) : ∀ p ∈ a :: l, p := List.forall_mem_cons.mpr ⟨h, t⟩
theorem g0 : ∀ p ∈ ([] : List Prop), p := fun _ h => nomatch h
section
variable {mem : List Int} {pc op : Int}
theorem Fetch.b0 (F : Fetch mem pc op) : InB mem.length pc := ⟨F.lo, by have := F.hi; omega, by have := F.hi; have := F.sz; omega⟩
theorem Fetch.i (F : Fetch mem pc op) : Builtin.bitAnd (pc + 1) 65535 = pc + 1 := by rw [and65535]; have := F.lo; have := F.hi; have := F.sz; omega
theorem Fetch.b1 (F : Fetch mem pc op) : InB mem.length (Builtin.bitAnd (pc + 1) 65535) := by rw [F.i]; exact ⟨by have := F.lo; omega, by have := F.hi; omega, by have := F.hi; have := F.sz; omega⟩
theorem Fetch.b2 (F : Fetch mem pc op) : InB mem.length (Builtin.bitAnd (pc + 1) 65535 + 1) := by rw [F.i]; exact ⟨by have := F.lo; omega, by have := F.hi; omega, by have := F.hi; have := F.sz; omega⟩
theorem Fetch.p1 (F : Fetch mem pc op) : Builtin.bitAnd (Builtin.bitAnd (pc + 1) 65535) 65535 = pc + 1 := by rw [F.i, F.i]
theorem Fetch.p2 (F : Fetch mem pc op) : Builtin.bitAnd (Builtin.bitAnd (pc + 1) 65535 + 1) 65535 = pc + 2 := by rw [F.i, and65535]; have := F.lo; have := F.hi; have := F.sz; omega
theorem Fetch.p3 (F : Fetch mem pc op) : Builtin.bitAnd (Builtin.bitAnd (pc + 1) 65535 + 2) 65535 = pc + 3 := by rw [F.i, and65535]; have := F.lo; have := F.hi; have := F.sz; omega
theorem Fetch.r1 (F : Fetch mem pc op) {v : Int} (h : get mem (pc + 1) = v) : mem.getD (Builtin.bitAnd (pc + 1) 65535).toNat 0 = v := by rw [F.i]; exact h
theorem Fetch.r2 (F : Fetch mem pc op) {v : Int} (h : get mem (pc + 2) = v) : mem.getD (Builtin.bitAnd (pc + 1) 65535 + 1).toNat 0 = v := by rw [F.i]; rw [show pc + 1 + 1 = pc + 2 by omega]; exact h
end
theorem om64 {v : Int} (h : 0 ≤ v ∧ v < 256) : v.natAbs < 2 ^ 64 := by omega
theorem omm {u v : Int} (h : u % 256 = v) : 0 ≤ v ∧ v < 256 := by omega
theorem omk {u k l : Int} (h : u = k) (h0 : 0 ≤ k) (h1 : k < l) (h2 : l ≤ 60000) : u % 65536 = k := by omega
theorem omj {u k : Int} (h : u = k) (h0 : 0 ≤ k) (h1 : k < 65536) : u % 65536 = k := by omega
theorem inB_of {n k : Int} (h0 : 0 ≤ k) (h1 : k < n) (h2 : n ≤ 60000) : InB n k := ⟨h0, h1, by omega⟩
theorem mk_eq {a a' x x' y y' sp sp' p p' pc pc' : Int} {mem mem' : List Int} (h1 : a = a') (h2 : x = x') (h3 : y = y') (h4 : sp = sp') (h5 : p = p') (h6 : pc = pc') (h7 : mem = mem') : (⟨a, x, y, sp, p, pc, mem⟩ : M) = ⟨a', x', y', sp', p', pc', mem'⟩ := by subst h1 h2 h3 h4 h5 h6 h7; rfl
theorem get_set2 {mem : List Int} {i j k : Int} {u v : Int} (hi : 0 ≤ i) (hj : 0 ≤ j) (hk : 0 ≤ k) (h1 : i ≠ j) (h2 : i ≠ k) : ((mem.set j.toNat u).set k.toNat v).getD i.toNat 0 = get mem i := by
  unfold get
  rw [List.getD_eq_getElem?_getD, List.getD_eq_getElem?_getD, List.getElem?_set_ne (by omega), List.getElem?_set_ne (by omega)]
theorem js_h {pc rh l : Int} (h : (pc + 2) / 256 = rh) (hc : 512 ≤ pc) (h1 : pc + 2 < l) (h2 : l ≤ 60000) : (pc + 2) / 256 % 256 % 256 = rh := by omega
theorem js_l {u rl : Int} (h : u % 256 = rl) : u % 256 % 256 = rl := by omega
theorem js_b1 {sp pc l : Int} (h0 : 0 ≤ sp) (h1 : sp < 256) (hc : 512 ≤ pc) (h2 : pc + 2 < l) (h3 : l ≤ 60000) : InB l (sp + 256) := inB_of (by omega) (by omega) h3
theorem js_b2 {u s1 pc l : Int} (h : u % 256 = s1) (hc : 512 ≤ pc) (h2 : pc + 2 < l) (h3 : l ≤ 60000) : InB l (s1 + 256) := inB_of (by omega) (by omega) h3
theorem js_b3 {u s1 : Int} {l : Nat} (h : u % 256 = s1) (h2 : 512 ≤ l) (h3 : (l : Int) ≤ 60000) : InB l (s1 + 256) := inB_of (by omega) (by omega) h3
theorem js_get {mem : List Int} {sp s1 pc j u v : Int} (hs1 : (sp - 1) % 256 = s1) (h0 : 0 ≤ sp) (h1 : sp < 256) (hc : 512 ≤ pc) (hj : pc ≤ j) : ((mem.set (sp + 256).toNat u).set (s1 + 256).toNat v).getD j.toNat 0 = get mem j := get_set2 (by omega) (by omega) (by omega) (by omega) (by omega)
theorem pz_T {v : Int} {n z c : Bool} (h : (v == 0) = true) : Builtin.bitOr (Builtin.bitAnd (Pf n z c) (Builtin.bitNot (Builtin.bitOr 2 128))) 2 = Pz v c := by
  have e := beq_iff_eq.mp h
  rw [p_nzT]; unfold Pz; rw [h, decide_eq_false (by omega)]
theorem pz_F {v : Int} {n z c : Bool} (h0 : 0 ≤ v) (h1 : v < 256) (h : (v == 0) = false) : Builtin.bitOr (Builtin.bitAnd (Pf n z c) (Builtin.bitNot (Builtin.bitOr 2 128))) (Builtin.bitAnd v 128) = Pz v c := by
  rw [p_nzF h0 h1]; unfold Pz; rw [h]
section
variable {a x y sp pc st : Int} {n z c : Bool} {mem : List Int}

theorem s_inx {v : Int} (F : Fetch mem pc 232) (hv : (x + 1) % 256 = v) : Stp ⟨a, x, y, sp, Pf n z c, pc, mem⟩ ⟨a, v, y, sp, Pz v c, pc + 1, mem⟩ := by
  have ev : Builtin.bitAnd (x + 1) 255 = v := by rw [and255]; exact hv
  cases hz : ((Builtin.bitAnd (x + 1) 255) == 0) with
  | true =>
    refine (stp_of (m := ⟨a, x, y, sp, Pf n z c, pc, mem⟩) (m' := ⟨a, (Builtin.bitAnd (x + 1) 255), y, sp, (Builtin.bitOr (Builtin.bitAnd (Pf n z c) (Builtin.bitNot (Builtin.bitOr 2 128))) 2), (Builtin.bitAnd (Builtin.bitAnd (pc + 1) 65535) 65535), mem⟩) (o := [.k 232, .b true]) (ex := 0) (ad := 0) (junk := []) (hg := (gc F.b0 (gc F.op (gc hz g0)))) (e := fun st => by kernel_rfl)).to ?_
    rw [ev] at hz
    refine mk_eq rfl ev rfl rfl (pz_T hz) F.p1 rfl
  | false =>
    refine (stp_of (m := ⟨a, x, y, sp, Pf n z c, pc, mem⟩) (m' := ⟨a, (Builtin.bitAnd (x + 1) 255), y, sp, (Builtin.bitOr (Builtin.bitAnd (Pf n z c) (Builtin.bitNot (Builtin.bitOr 2 128))) (Builtin.bitAnd (Builtin.bitAnd (x + 1) 255) 128)), (Builtin.bitAnd (Builtin.bitAnd (pc + 1) 65535) 65535), mem⟩) (o := [.k 232, .b false]) (ex := 0) (ad := 0) (junk := []) (hg := (gc F.b0 (gc F.op (gc hz g0)))) (e := fun st => by kernel_rfl)).to ?_
    rw [ev] at hz
    refine mk_eq rfl ev rfl rfl (by rw [ev]; exact pz_F (omm hv).1 (omm hv).2 hz) F.p1 rfl
theorem s_iny {v : Int} (F : Fetch mem pc 200) (hv : (y + 1) % 256 = v) : Stp ⟨a, x, y, sp, Pf n z c, pc, mem⟩ ⟨a, x, v, sp, Pz v c, pc + 1, mem⟩ := by
  have ev : Builtin.bitAnd (y + 1) 255 = v := by rw [and255]; exact hv
  cases hz : ((Builtin.bitAnd (y + 1) 255) == 0) with
  | true =>
    refine (stp_of (m := ⟨a, x, y, sp, Pf n z c, pc, mem⟩) (m' := ⟨a, x, (Builtin.bitAnd (y + 1) 255), sp, (Builtin.bitOr (Builtin.bitAnd (Pf n z c) (Builtin.bitNot (Builtin.bitOr 2 128))) 2), (Builtin.bitAnd (Builtin.bitAnd (pc + 1) 65535) 65535), mem⟩) (o := [.k 200, .b true]) (ex := 0) (ad := 0) (junk := []) (hg := (gc F.b0 (gc F.op (gc hz g0)))) (e := fun st => by kernel_rfl)).to ?_
    rw [ev] at hz
    refine mk_eq rfl rfl ev rfl (pz_T hz) F.p1 rfl
  | false =>
    refine (stp_of (m := ⟨a, x, y, sp, Pf n z c, pc, mem⟩) (m' := ⟨a, x, (Builtin.bitAnd (y + 1) 255), sp, (Builtin.bitOr (Builtin.bitAnd (Pf n z c) (Builtin.bitNot (Builtin.bitOr 2 128))) (Builtin.bitAnd (Builtin.bitAnd (y + 1) 255) 128)), (Builtin.bitAnd (Builtin.bitAnd (pc + 1) 65535) 65535), mem⟩) (o := [.k 200, .b false]) (ex := 0) (ad := 0) (junk := []) (hg := (gc F.b0 (gc F.op (gc hz g0)))) (e := fun st => by kernel_rfl)).to ?_
    rw [ev] at hz
    refine mk_eq rfl rfl ev rfl (by rw [ev]; exact pz_F (omm hv).1 (omm hv).2 hz) F.p1 rfl
theorem s_txa {v : Int} (F : Fetch mem pc 138) (hv : x = v) (h0 : 0 ≤ v) (h1 : v < 256) : Stp ⟨a, x, y, sp, Pf n z c, pc, mem⟩ ⟨v, x, y, sp, Pz v c, pc + 1, mem⟩ := by
  have ev : x = v := hv
  cases hz : (x == 0) with
  | true =>
    refine (stp_of (m := ⟨a, x, y, sp, Pf n z c, pc, mem⟩) (m' := ⟨x, x, y, sp, (Builtin.bitOr (Builtin.bitAnd (Pf n z c) (Builtin.bitNot (Builtin.bitOr 2 128))) 2), (Builtin.bitAnd (Builtin.bitAnd (pc + 1) 65535) 65535), mem⟩) (o := [.k 138, .b true]) (ex := 0) (ad := 0) (junk := []) (hg := (gc F.b0 (gc F.op (gc hz g0)))) (e := fun st => by kernel_rfl)).to ?_
    rw [ev] at hz
    refine mk_eq ev rfl rfl rfl (pz_T hz) F.p1 rfl
  | false =>
    refine (stp_of (m := ⟨a, x, y, sp, Pf n z c, pc, mem⟩) (m' := ⟨x, x, y, sp, (Builtin.bitOr (Builtin.bitAnd (Pf n z c) (Builtin.bitNot (Builtin.bitOr 2 128))) (Builtin.bitAnd x 128)), (Builtin.bitAnd (Builtin.bitAnd (pc + 1) 65535) 65535), mem⟩) (o := [.k 138, .b false]) (ex := 0) (ad := 0) (junk := []) (hg := (gc F.b0 (gc F.op (gc hz g0)))) (e := fun st => by kernel_rfl)).to ?_
    rw [ev] at hz
    refine mk_eq ev rfl rfl rfl (by rw [ev]; exact pz_F h0 h1 hz) F.p1 rfl
theorem s_tax {v : Int} (F : Fetch mem pc 170) (hv : a = v) (h0 : 0 ≤ v) (h1 : v < 256) : Stp ⟨a, x, y, sp, Pf n z c, pc, mem⟩ ⟨a, v, y, sp, Pz v c, pc + 1, mem⟩ := by
  have ev : a = v := hv
  cases hz : (a == 0) with
  | true =>
    refine (stp_of (m := ⟨a, x, y, sp, Pf n z c, pc, mem⟩) (m' := ⟨a, a, y, sp, (Builtin.bitOr (Builtin.bitAnd (Pf n z c) (Builtin.bitNot (Builtin.bitOr 2 128))) 2), (Builtin.bitAnd (Builtin.bitAnd (pc + 1) 65535) 65535), mem⟩) (o := [.k 170, .b true]) (ex := 0) (ad := 0) (junk := []) (hg := (gc F.b0 (gc F.op (gc hz g0)))) (e := fun st => by kernel_rfl)).to ?_
    rw [ev] at hz
    refine mk_eq rfl ev rfl rfl (pz_T hz) F.p1 rfl
  | false =>
    refine (stp_of (m := ⟨a, x, y, sp, Pf n z c, pc, mem⟩) (m' := ⟨a, a, y, sp, (Builtin.bitOr (Builtin.bitAnd (Pf n z c) (Builtin.bitNot (Builtin.bitOr 2 128))) (Builtin.bitAnd a 128)), (Builtin.bitAnd (Builtin.bitAnd (pc + 1) 65535) 65535), mem⟩) (o := [.k 170, .b false]) (ex := 0) (ad := 0) (junk := []) (hg := (gc F.b0 (gc F.op (gc hz g0)))) (e := fun st => by kernel_rfl)).to ?_
    rw [ev] at hz
    refine mk_eq rfl ev rfl rfl (by rw [ev]; exact pz_F h0 h1 hz) F.p1 rfl
theorem s_tya {v : Int} (F : Fetch mem pc 152) (hv : y = v) (h0 : 0 ≤ v) (h1 : v < 256) : Stp ⟨a, x, y, sp, Pf n z c, pc, mem⟩ ⟨v, x, y, sp, Pz v c, pc + 1, mem⟩ := by
  have ev : y = v := hv
  cases hz : (y == 0) with
  | true =>
    refine (stp_of (m := ⟨a, x, y, sp, Pf n z c, pc, mem⟩) (m' := ⟨y, x, y, sp, (Builtin.bitOr (Builtin.bitAnd (Pf n z c) (Builtin.bitNot (Builtin.bitOr 2 128))) 2), (Builtin.bitAnd (Builtin.bitAnd (pc + 1) 65535) 65535), mem⟩) (o := [.k 152, .b true]) (ex := 0) (ad := 0) (junk := []) (hg := (gc F.b0 (gc F.op (gc hz g0)))) (e := fun st => by kernel_rfl)).to ?_
    rw [ev] at hz
    refine mk_eq ev rfl rfl rfl (pz_T hz) F.p1 rfl
  | false =>
    refine (stp_of (m := ⟨a, x, y, sp, Pf n z c, pc, mem⟩) (m' := ⟨y, x, y, sp, (Builtin.bitOr (Builtin.bitAnd (Pf n z c) (Builtin.bitNot (Builtin.bitOr 2 128))) (Builtin.bitAnd y 128)), (Builtin.bitAnd (Builtin.bitAnd (pc + 1) 65535) 65535), mem⟩) (o := [.k 152, .b false]) (ex := 0) (ad := 0) (junk := []) (hg := (gc F.b0 (gc F.op (gc hz g0)))) (e := fun st => by kernel_rfl)).to ?_
    rw [ev] at hz
    refine mk_eq ev rfl rfl rfl (by rw [ev]; exact pz_F h0 h1 hz) F.p1 rfl
theorem s_tay {v : Int} (F : Fetch mem pc 168) (hv : a = v) (h0 : 0 ≤ v) (h1 : v < 256) : Stp ⟨a, x, y, sp, Pf n z c, pc, mem⟩ ⟨a, x, v, sp, Pz v c, pc + 1, mem⟩ := by
  have ev : a = v := hv
  cases hz : (a == 0) with
  | true =>
    refine (stp_of (m := ⟨a, x, y, sp, Pf n z c, pc, mem⟩) (m' := ⟨a, x, a, sp, (Builtin.bitOr (Builtin.bitAnd (Pf n z c) (Builtin.bitNot (Builtin.bitOr 2 128))) 2), (Builtin.bitAnd (Builtin.bitAnd (pc + 1) 65535) 65535), mem⟩) (o := [.k 168, .b true]) (ex := 0) (ad := 0) (junk := []) (hg := (gc F.b0 (gc F.op (gc hz g0)))) (e := fun st => by kernel_rfl)).to ?_
    rw [ev] at hz
    refine mk_eq rfl rfl ev rfl (pz_T hz) F.p1 rfl
  | false =>
    refine (stp_of (m := ⟨a, x, y, sp, Pf n z c, pc, mem⟩) (m' := ⟨a, x, a, sp, (Builtin.bitOr (Builtin.bitAnd (Pf n z c) (Builtin.bitNot (Builtin.bitOr 2 128))) (Builtin.bitAnd a 128)), (Builtin.bitAnd (Builtin.bitAnd (pc + 1) 65535) 65535), mem⟩) (o := [.k 168, .b false]) (ex := 0) (ad := 0) (junk := []) (hg := (gc F.b0 (gc F.op (gc hz g0)))) (e := fun st => by kernel_rfl)).to ?_
    rw [ev] at hz
    refine mk_eq rfl rfl ev rfl (by rw [ev]; exact pz_F h0 h1 hz) F.p1 rfl
theorem s_clc (F : Fetch mem pc 24)  : Stp ⟨a, x, y, sp, Pf n z c, pc, mem⟩ ⟨a, x, y, sp, Pf n z false, pc + 1, mem⟩ := by
  refine (stp_of (m := ⟨a, x, y, sp, Pf n z c, pc, mem⟩) (m' := ⟨a, x, y, sp, Builtin.bitAnd (Pf n z c) (Builtin.bitNot 1), (Builtin.bitAnd (Builtin.bitAnd (pc + 1) 65535) 65535), mem⟩) (o := [.k 24]) (ex := 0) (ad := 0) (junk := []) (hg := (gc F.b0 (gc F.op g0))) (e := fun st => by kernel_rfl)).to ?_
  exact mk_eq rfl rfl rfl rfl (p_clc n z c) F.p1 rfl
theorem s_sec (F : Fetch mem pc 56)  : Stp ⟨a, x, y, sp, Pf n z c, pc, mem⟩ ⟨a, x, y, sp, Pf n z true, pc + 1, mem⟩ := by
  refine (stp_of (m := ⟨a, x, y, sp, Pf n z c, pc, mem⟩) (m' := ⟨a, x, y, sp, Builtin.bitOr (Pf n z c) 1, (Builtin.bitAnd (Builtin.bitAnd (pc + 1) 65535) 65535), mem⟩) (o := [.k 56]) (ex := 0) (ad := 0) (junk := []) (hg := (gc F.b0 (gc F.op g0))) (e := fun st => by kernel_rfl)).to ?_
  exact mk_eq rfl rfl rfl rfl (p_sec n z c) F.p1 rfl
theorem s_pha (F : Fetch mem pc 72) {s : Int} (hs : (sp - 1) % 256 = s) (ha : 0 ≤ a) (ha1 : a < 256) (hp : 0 ≤ sp) (hp1 : sp + 256 < mem.length) : Stp ⟨a, x, y, sp, Pf n z c, pc, mem⟩ ⟨a, x, y, s, Pf n z c, pc + 1, mem.set (sp + 256).toNat a⟩ := by
  have ib : InB mem.length (sp + 256) := inB_of (by omega) hp1 F.sz
  have ea : Builtin.bitAnd a 255 = a := by rw [and255]; omega
  refine (stp_of (m := ⟨a, x, y, sp, Pf n z c, pc, mem⟩) (m' := ⟨a, x, y, Builtin.bitAnd (sp - 1) 255, Pf n z c, (Builtin.bitAnd (Builtin.bitAnd (pc + 1) 65535) 65535), mem.set (sp + 256).toNat (Builtin.bitAnd a 255)⟩) (o := [.k 72]) (ex := 0) (ad := 0) (junk := []) (hg := (gc F.b0 (gc F.op (gc ib g0)))) (e := fun st => by kernel_rfl)).to ?_
  exact mk_eq rfl rfl rfl (by rw [and255]; exact hs) rfl F.p1 (by rw [ea])
theorem s_pla {v s : Int} (F : Fetch mem pc 104) (hs : (sp + 1) % 256 = s) (hv : get mem (s + 256) = v) (h0 : 0 ≤ v) (h1 : v < 256) (hp1 : s + 256 < mem.length) : Stp ⟨a, x, y, sp, Pf n z c, pc, mem⟩ ⟨v, x, y, s, Pz v c, pc + 1, mem⟩ := by
  have es : Builtin.bitAnd (sp + 1) 255 = s := by rw [and255]; exact hs
  have ev : (mem.getD (Builtin.bitAnd (sp + 1) 255 + 256).toNat 0) = v := by rw [es]; exact hv
  have ib : InB mem.length (Builtin.bitAnd (sp + 1) 255 + 256) := by rw [es]; exact inB_of (by omega) hp1 F.sz
  cases hz : ((mem.getD (Builtin.bitAnd (sp + 1) 255 + 256).toNat 0) == 0) with
  | true =>
    refine (stp_of (m := ⟨a, x, y, sp, Pf n z c, pc, mem⟩) (m' := ⟨(mem.getD (Builtin.bitAnd (sp + 1) 255 + 256).toNat 0), x, y, Builtin.bitAnd (sp + 1) 255, (Builtin.bitOr (Builtin.bitAnd (Pf n z c) (Builtin.bitNot (Builtin.bitOr 2 128))) 2), (Builtin.bitAnd (Builtin.bitAnd (pc + 1) 65535) 65535), mem⟩) (o := [.k 104, .b true]) (ex := 0) (ad := 0) (junk := []) (hg := (gc F.b0 (gc F.op (gc ib (gc hz g0))))) (e := fun st => by kernel_rfl)).to ?_
    rw [ev] at hz
    refine mk_eq ev rfl rfl es (pz_T hz) F.p1 rfl
  | false =>
    refine (stp_of (m := ⟨a, x, y, sp, Pf n z c, pc, mem⟩) (m' := ⟨(mem.getD (Builtin.bitAnd (sp + 1) 255 + 256).toNat 0), x, y, Builtin.bitAnd (sp + 1) 255, (Builtin.bitOr (Builtin.bitAnd (Pf n z c) (Builtin.bitNot (Builtin.bitOr 2 128))) (Builtin.bitAnd (mem.getD (Builtin.bitAnd (sp + 1) 255 + 256).toNat 0) 128)), (Builtin.bitAnd (Builtin.bitAnd (pc + 1) 65535) 65535), mem⟩) (o := [.k 104, .b false]) (ex := 0) (ad := 0) (junk := []) (hg := (gc F.b0 (gc F.op (gc ib (gc hz g0))))) (e := fun st => by kernel_rfl)).to ?_
    rw [ev] at hz
    refine mk_eq ev rfl rfl es (by rw [ev]; exact pz_F h0 h1 hz) F.p1 rfl
theorem s_lda {v : Int} (F : Fetch mem pc 169) (hv : get mem (pc + 1) = v) (h0 : 0 ≤ v) (h1 : v < 256) : Stp ⟨a, x, y, sp, Pf n z c, pc, mem⟩ ⟨v, x, y, sp, Pz v c, pc + 2, mem⟩ := by
  have ev : (mem.getD (Builtin.bitAnd (pc + 1) 65535).toNat 0) = v := F.r1 hv
  cases hz : ((mem.getD (Builtin.bitAnd (pc + 1) 65535).toNat 0) == 0) with
  | true =>
    refine (stp_of (m := ⟨a, x, y, sp, Pf n z c, pc, mem⟩) (m' := ⟨(mem.getD (Builtin.bitAnd (pc + 1) 65535).toNat 0), x, y, sp, (Builtin.bitOr (Builtin.bitAnd (Pf n z c) (Builtin.bitNot (Builtin.bitOr 2 128))) 2), (Builtin.bitAnd ((Builtin.bitAnd (pc + 1) 65535) + 1) 65535), mem⟩) (o := [.k 169, .b true]) (ex := 0) (ad := 0) (junk := [.meth 92 (.obj 1)]) (hg := (gc F.b0 (gc F.op (gc F.b1 (gc hz g0))))) (e := fun st => by kernel_rfl)).to ?_
    rw [ev] at hz
    refine mk_eq ev rfl rfl rfl (pz_T hz) F.p2 rfl
  | false =>
    refine (stp_of (m := ⟨a, x, y, sp, Pf n z c, pc, mem⟩) (m' := ⟨(mem.getD (Builtin.bitAnd (pc + 1) 65535).toNat 0), x, y, sp, (Builtin.bitOr (Builtin.bitAnd (Pf n z c) (Builtin.bitNot (Builtin.bitOr 2 128))) (Builtin.bitAnd (mem.getD (Builtin.bitAnd (pc + 1) 65535).toNat 0) 128)), (Builtin.bitAnd ((Builtin.bitAnd (pc + 1) 65535) + 1) 65535), mem⟩) (o := [.k 169, .b false]) (ex := 0) (ad := 0) (junk := [.meth 92 (.obj 1)]) (hg := (gc F.b0 (gc F.op (gc F.b1 (gc hz g0))))) (e := fun st => by kernel_rfl)).to ?_
    rw [ev] at hz
    refine mk_eq ev rfl rfl rfl (by rw [ev]; exact pz_F h0 h1 hz) F.p2 rfl
theorem s_ldx {v : Int} (F : Fetch mem pc 162) (hv : get mem (pc + 1) = v) (h0 : 0 ≤ v) (h1 : v < 256) : Stp ⟨a, x, y, sp, Pf n z c, pc, mem⟩ ⟨a, v, y, sp, Pz v c, pc + 2, mem⟩ := by
  have ev : (mem.getD (Builtin.bitAnd (pc + 1) 65535).toNat 0) = v := F.r1 hv
  cases hz : ((mem.getD (Builtin.bitAnd (pc + 1) 65535).toNat 0) == 0) with
  | true =>
    refine (stp_of (m := ⟨a, x, y, sp, Pf n z c, pc, mem⟩) (m' := ⟨a, (mem.getD (Builtin.bitAnd (pc + 1) 65535).toNat 0), y, sp, (Builtin.bitOr (Builtin.bitAnd (Pf n z c) (Builtin.bitNot (Builtin.bitOr 2 128))) 2), (Builtin.bitAnd ((Builtin.bitAnd (pc + 1) 65535) + 1) 65535), mem⟩) (o := [.k 162, .b true]) (ex := 0) (ad := 0) (junk := [.meth 92 (.obj 1)]) (hg := (gc F.b0 (gc F.op (gc F.b1 (gc hz g0))))) (e := fun st => by kernel_rfl)).to ?_
    rw [ev] at hz
    refine mk_eq rfl ev rfl rfl (pz_T hz) F.p2 rfl
  | false =>
    refine (stp_of (m := ⟨a, x, y, sp, Pf n z c, pc, mem⟩) (m' := ⟨a, (mem.getD (Builtin.bitAnd (pc + 1) 65535).toNat 0), y, sp, (Builtin.bitOr (Builtin.bitAnd (Pf n z c) (Builtin.bitNot (Builtin.bitOr 2 128))) (Builtin.bitAnd (mem.getD (Builtin.bitAnd (pc + 1) 65535).toNat 0) 128)), (Builtin.bitAnd ((Builtin.bitAnd (pc + 1) 65535) + 1) 65535), mem⟩) (o := [.k 162, .b false]) (ex := 0) (ad := 0) (junk := [.meth 92 (.obj 1)]) (hg := (gc F.b0 (gc F.op (gc F.b1 (gc hz g0))))) (e := fun st => by kernel_rfl)).to ?_
    rw [ev] at hz
    refine mk_eq rfl ev rfl rfl (by rw [ev]; exact pz_F h0 h1 hz) F.p2 rfl
theorem s_ldy {v : Int} (F : Fetch mem pc 160) (hv : get mem (pc + 1) = v) (h0 : 0 ≤ v) (h1 : v < 256) : Stp ⟨a, x, y, sp, Pf n z c, pc, mem⟩ ⟨a, x, v, sp, Pz v c, pc + 2, mem⟩ := by
  have ev : (mem.getD (Builtin.bitAnd (pc + 1) 65535).toNat 0) = v := F.r1 hv
  cases hz : ((mem.getD (Builtin.bitAnd (pc + 1) 65535).toNat 0) == 0) with
  | true =>
    refine (stp_of (m := ⟨a, x, y, sp, Pf n z c, pc, mem⟩) (m' := ⟨a, x, (mem.getD (Builtin.bitAnd (pc + 1) 65535).toNat 0), sp, (Builtin.bitOr (Builtin.bitAnd (Pf n z c) (Builtin.bitNot (Builtin.bitOr 2 128))) 2), (Builtin.bitAnd ((Builtin.bitAnd (pc + 1) 65535) + 1) 65535), mem⟩) (o := [.k 160, .b true]) (ex := 0) (ad := 0) (junk := [.meth 92 (.obj 1)]) (hg := (gc F.b0 (gc F.op (gc F.b1 (gc hz g0))))) (e := fun st => by kernel_rfl)).to ?_
    rw [ev] at hz
    refine mk_eq rfl rfl ev rfl (pz_T hz) F.p2 rfl
  | false =>
    refine (stp_of (m := ⟨a, x, y, sp, Pf n z c, pc, mem⟩) (m' := ⟨a, x, (mem.getD (Builtin.bitAnd (pc + 1) 65535).toNat 0), sp, (Builtin.bitOr (Builtin.bitAnd (Pf n z c) (Builtin.bitNot (Builtin.bitOr 2 128))) (Builtin.bitAnd (mem.getD (Builtin.bitAnd (pc + 1) 65535).toNat 0) 128)), (Builtin.bitAnd ((Builtin.bitAnd (pc + 1) 65535) + 1) 65535), mem⟩) (o := [.k 160, .b false]) (ex := 0) (ad := 0) (junk := [.meth 92 (.obj 1)]) (hg := (gc F.b0 (gc F.op (gc F.b1 (gc hz g0))))) (e := fun st => by kernel_rfl)).to ?_
    rw [ev] at hz
    refine mk_eq rfl rfl ev rfl (by rw [ev]; exact pz_F h0 h1 hz) F.p2 rfl
theorem s_sta2 (F : Fetch mem pc 133) {k : Int} (hk : get mem (pc + 1) = k) (hk0 : 0 ≤ k) (hk1 : k < mem.length) : Stp ⟨a, x, y, sp, Pf n z c, pc, mem⟩ ⟨a, x, y, sp, Pf n z c, pc + 2, mem.set k.toNat a⟩ := by
  have ek : (mem.getD (Builtin.bitAnd (pc + 1) 65535).toNat 0) = k := F.r1 hk
  have ib : InB mem.length (mem.getD (Builtin.bitAnd (pc + 1) 65535).toNat 0) := by rw [ek]; exact inB_of hk0 hk1 F.sz
  refine (stp_of (m := ⟨a, x, y, sp, Pf n z c, pc, mem⟩) (m' := ⟨a, x, y, sp, Pf n z c, (Builtin.bitAnd ((Builtin.bitAnd (pc + 1) 65535) + 1) 65535), mem.set (mem.getD (Builtin.bitAnd (pc + 1) 65535).toNat 0).toNat a⟩) (o := [.k 133]) (ex := 0) (ad := 0) (junk := [.meth 106 (.obj 1)]) (hg := (gc F.b0 (gc F.op (gc F.b1 (gc ib g0))))) (e := fun st => by kernel_rfl)).to ?_
  exact mk_eq rfl rfl rfl rfl rfl F.p2 (by rw [ek])
theorem s_cmp {v : Int} (F : Fetch mem pc 201) (hv : get mem (pc + 1) = v) (hr : 0 ≤ a ∧ a < 256) (hv0 : 0 ≤ v ∧ v < 256) : Stp ⟨a, x, y, sp, Pf n z c, pc, mem⟩ ⟨a, x, y, sp, Pc a v, pc + 2, mem⟩ := by
  have ev : (mem.getD (Builtin.bitAnd (pc + 1) 65535).toNat 0) = v := F.r1 hv
  cases h1 : (a == (mem.getD (Builtin.bitAnd (pc + 1) 65535).toNat 0)) with
  | true =>
    refine (stp_of (m := ⟨a, x, y, sp, Pf n z c, pc, mem⟩) (m' := ⟨a, x, y, sp, (Builtin.bitOr (Builtin.bitOr (Builtin.bitAnd (Pf n z c) (Builtin.bitNot (Builtin.bitOr (Builtin.bitOr 1 2) 128))) (Builtin.bitOr 1 2)) (Builtin.bitAnd (a - (mem.getD (Builtin.bitAnd (pc + 1) 65535).toNat 0)) 128)), (Builtin.bitAnd ((Builtin.bitAnd (pc + 1) 65535) + 1) 65535), mem⟩) (o := [.k 201, .b true]) (ex := 0) (ad := 0) (junk := [.meth 92 (.obj 1)]) (hg := (gc F.b0 (gc F.op (gc F.b1 (gc h1 g0))))) (e := fun st => by kernel_rfl)).to ?_
    refine mk_eq rfl rfl rfl rfl (by rw [ev]; exact p_cE hr hv0 (by rw [ev] at h1; exact h1)) F.p2 rfl
  | false =>
    cases h2 : decide ((mem.getD (Builtin.bitAnd (pc + 1) 65535).toNat 0) < a) with
    | true =>
      refine (stp_of (m := ⟨a, x, y, sp, Pf n z c, pc, mem⟩) (m' := ⟨a, x, y, sp, (Builtin.bitOr (Builtin.bitOr (Builtin.bitAnd (Pf n z c) (Builtin.bitNot (Builtin.bitOr (Builtin.bitOr 1 2) 128))) 1) (Builtin.bitAnd (a - (mem.getD (Builtin.bitAnd (pc + 1) 65535).toNat 0)) 128)), (Builtin.bitAnd ((Builtin.bitAnd (pc + 1) 65535) + 1) 65535), mem⟩) (o := [.k 201, .b false, .b true]) (ex := 0) (ad := 0) (junk := [.meth 92 (.obj 1)]) (hg := (gc F.b0 (gc F.op (gc F.b1 (gc h1 (gc h2 g0)))))) (e := fun st => by kernel_rfl)).to ?_
      refine mk_eq rfl rfl rfl rfl (by rw [ev]; exact p_cG hr hv0 (by rw [ev] at h1; exact h1) (by rw [ev] at h2; exact h2)) F.p2 rfl
    | false =>
      refine (stp_of (m := ⟨a, x, y, sp, Pf n z c, pc, mem⟩) (m' := ⟨a, x, y, sp, (Builtin.bitOr (Builtin.bitAnd (Pf n z c) (Builtin.bitNot (Builtin.bitOr (Builtin.bitOr 1 2) 128))) (Builtin.bitAnd (a - (mem.getD (Builtin.bitAnd (pc + 1) 65535).toNat 0)) 128)), (Builtin.bitAnd ((Builtin.bitAnd (pc + 1) 65535) + 1) 65535), mem⟩) (o := [.k 201, .b false, .b false]) (ex := 0) (ad := 0) (junk := [.meth 92 (.obj 1)]) (hg := (gc F.b0 (gc F.op (gc F.b1 (gc h1 (gc h2 g0)))))) (e := fun st => by kernel_rfl)).to ?_
      refine mk_eq rfl rfl rfl rfl (by rw [ev]; exact p_cL hr hv0 (by rw [ev] at h1; exact h1) (by rw [ev] at h2; exact h2)) F.p2 rfl
theorem s_ldax {lo hi k v : Int} (F : Fetch mem pc 189) (hlo : get mem (pc + 1) = lo) (hhi : get mem (pc + 2) = hi) (hl0 : 0 ≤ lo ∧ lo < 256) (hh0 : 0 ≤ hi ∧ hi < 256) (hk : lo + hi * 256 + x = k) (hk0 : 0 ≤ k) (hk1 : k < mem.length) (hv : get mem k = v) (h0 : 0 ≤ v) (h1 : v < 256) : Stp ⟨a, x, y, sp, Pf n z c, pc, mem⟩ ⟨v, x, y, sp, Pz v c, pc + 3, mem⟩ := by
  have e1 : (mem.getD (Builtin.bitAnd (pc + 1) 65535).toNat 0) = lo := F.r1 hlo
  have e2 : (mem.getD ((Builtin.bitAnd (pc + 1) 65535) + 1).toNat 0) = hi := F.r2 hhi
  have ek : (Builtin.bitAnd ((mem.getD (Builtin.bitAnd (pc + 1) 65535).toNat 0) + (mem.getD ((Builtin.bitAnd (pc + 1) 65535) + 1).toNat 0) * 2 ^ Int.toNat 8 + x) 65535) = k := by rw [e1, e2, and65535, show (2 : Int) ^ Int.toNat 8 = 256 from rfl]; exact omk hk hk0 hk1 F.sz
  have ib : InB mem.length (Builtin.bitAnd ((mem.getD (Builtin.bitAnd (pc + 1) 65535).toNat 0) + (mem.getD ((Builtin.bitAnd (pc + 1) 65535) + 1).toNat 0) * 2 ^ Int.toNat 8 + x) 65535) := by rw [ek]; exact inB_of hk0 hk1 F.sz
  have iz : ((mem.getD ((Builtin.bitAnd (pc + 1) 65535) + 1).toNat 0)).natAbs < 2 ^ 64 := by rw [e2]; exact om64 hh0
  have ev : (mem.getD (Builtin.bitAnd ((mem.getD (Builtin.bitAnd (pc + 1) 65535).toNat 0) + (mem.getD ((Builtin.bitAnd (pc + 1) 65535) + 1).toNat 0) * 2 ^ Int.toNat 8 + x) 65535).toNat 0) = v := by rw [ek]; exact hv
  cases hq : (Builtin.bitAnd ((mem.getD (Builtin.bitAnd (pc + 1) 65535).toNat 0) + (mem.getD ((Builtin.bitAnd (pc + 1) 65535) + 1).toNat 0) * 2 ^ Int.toNat 8) 65280 != Builtin.bitAnd (Builtin.bitAnd ((mem.getD (Builtin.bitAnd (pc + 1) 65535).toNat 0) + (mem.getD ((Builtin.bitAnd (pc + 1) 65535) + 1).toNat 0) * 2 ^ Int.toNat 8 + x) 65535) 65280) with
  | true =>
    cases hz : ((mem.getD (Builtin.bitAnd ((mem.getD (Builtin.bitAnd (pc + 1) 65535).toNat 0) + (mem.getD ((Builtin.bitAnd (pc + 1) 65535) + 1).toNat 0) * 2 ^ Int.toNat 8 + x) 65535).toNat 0) == 0) with
    | true =>
      refine (stp_of (m := ⟨a, x, y, sp, Pf n z c, pc, mem⟩) (m' := ⟨(mem.getD (Builtin.bitAnd ((mem.getD (Builtin.bitAnd (pc + 1) 65535).toNat 0) + (mem.getD ((Builtin.bitAnd (pc + 1) 65535) + 1).toNat 0) * 2 ^ Int.toNat 8 + x) 65535).toNat 0), x, y, sp, (Builtin.bitOr (Builtin.bitAnd (Pf n z c) (Builtin.bitNot (Builtin.bitOr 2 128))) 2), (Builtin.bitAnd ((Builtin.bitAnd (pc + 1) 65535) + 2) 65535), mem⟩) (o := [.k 189, .b true, .b true]) (ex := 0 + 1) (ad := 1) (junk := [.meth 148 (.obj 1)]) (hg := (gc F.b0 (gc F.op (gc F.b1 (gc F.b2 (gc (show (0 : Int) ≤ 8 by decide) (gc (show (8 : Int) ≤ 1000000 by decide) (gc iz (gc hq (gc ib (gc hz g0))))))))))) (e := fun st => by kernel_rfl)).to ?_
      rw [ev] at hz
      refine mk_eq ev rfl rfl rfl (pz_T hz) F.p3 rfl
    | false =>
      refine (stp_of (m := ⟨a, x, y, sp, Pf n z c, pc, mem⟩) (m' := ⟨(mem.getD (Builtin.bitAnd ((mem.getD (Builtin.bitAnd (pc + 1) 65535).toNat 0) + (mem.getD ((Builtin.bitAnd (pc + 1) 65535) + 1).toNat 0) * 2 ^ Int.toNat 8 + x) 65535).toNat 0), x, y, sp, (Builtin.bitOr (Builtin.bitAnd (Pf n z c) (Builtin.bitNot (Builtin.bitOr 2 128))) (Builtin.bitAnd (mem.getD (Builtin.bitAnd ((mem.getD (Builtin.bitAnd (pc + 1) 65535).toNat 0) + (mem.getD ((Builtin.bitAnd (pc + 1) 65535) + 1).toNat 0) * 2 ^ Int.toNat 8 + x) 65535).toNat 0) 128)), (Builtin.bitAnd ((Builtin.bitAnd (pc + 1) 65535) + 2) 65535), mem⟩) (o := [.k 189, .b true, .b false]) (ex := 0 + 1) (ad := 1) (junk := [.meth 148 (.obj 1)]) (hg := (gc F.b0 (gc F.op (gc F.b1 (gc F.b2 (gc (show (0 : Int) ≤ 8 by decide) (gc (show (8 : Int) ≤ 1000000 by decide) (gc iz (gc hq (gc ib (gc hz g0))))))))))) (e := fun st => by kernel_rfl)).to ?_
      rw [ev] at hz
      refine mk_eq ev rfl rfl rfl (by rw [ev]; exact pz_F h0 h1 hz) F.p3 rfl
  | false =>
    cases hz : ((mem.getD (Builtin.bitAnd ((mem.getD (Builtin.bitAnd (pc + 1) 65535).toNat 0) + (mem.getD ((Builtin.bitAnd (pc + 1) 65535) + 1).toNat 0) * 2 ^ Int.toNat 8 + x) 65535).toNat 0) == 0) with
    | true =>
      refine (stp_of (m := ⟨a, x, y, sp, Pf n z c, pc, mem⟩) (m' := ⟨(mem.getD (Builtin.bitAnd ((mem.getD (Builtin.bitAnd (pc + 1) 65535).toNat 0) + (mem.getD ((Builtin.bitAnd (pc + 1) 65535) + 1).toNat 0) * 2 ^ Int.toNat 8 + x) 65535).toNat 0), x, y, sp, (Builtin.bitOr (Builtin.bitAnd (Pf n z c) (Builtin.bitNot (Builtin.bitOr 2 128))) 2), (Builtin.bitAnd ((Builtin.bitAnd (pc + 1) 65535) + 2) 65535), mem⟩) (o := [.k 189, .b false, .b true]) (ex := 0) (ad := 1) (junk := [.meth 148 (.obj 1)]) (hg := (gc F.b0 (gc F.op (gc F.b1 (gc F.b2 (gc (show (0 : Int) ≤ 8 by decide) (gc (show (8 : Int) ≤ 1000000 by decide) (gc iz (gc hq (gc ib (gc hz g0))))))))))) (e := fun st => by kernel_rfl)).to ?_
      rw [ev] at hz
      refine mk_eq ev rfl rfl rfl (pz_T hz) F.p3 rfl
    | false =>
      refine (stp_of (m := ⟨a, x, y, sp, Pf n z c, pc, mem⟩) (m' := ⟨(mem.getD (Builtin.bitAnd ((mem.getD (Builtin.bitAnd (pc + 1) 65535).toNat 0) + (mem.getD ((Builtin.bitAnd (pc + 1) 65535) + 1).toNat 0) * 2 ^ Int.toNat 8 + x) 65535).toNat 0), x, y, sp, (Builtin.bitOr (Builtin.bitAnd (Pf n z c) (Builtin.bitNot (Builtin.bitOr 2 128))) (Builtin.bitAnd (mem.getD (Builtin.bitAnd ((mem.getD (Builtin.bitAnd (pc + 1) 65535).toNat 0) + (mem.getD ((Builtin.bitAnd (pc + 1) 65535) + 1).toNat 0) * 2 ^ Int.toNat 8 + x) 65535).toNat 0) 128)), (Builtin.bitAnd ((Builtin.bitAnd (pc + 1) 65535) + 2) 65535), mem⟩) (o := [.k 189, .b false, .b false]) (ex := 0) (ad := 1) (junk := [.meth 148 (.obj 1)]) (hg := (gc F.b0 (gc F.op (gc F.b1 (gc F.b2 (gc (show (0 : Int) ≤ 8 by decide) (gc (show (8 : Int) ≤ 1000000 by decide) (gc iz (gc hq (gc ib (gc hz g0))))))))))) (e := fun st => by kernel_rfl)).to ?_
      rw [ev] at hz
      refine mk_eq ev rfl rfl rfl (by rw [ev]; exact pz_F h0 h1 hz) F.p3 rfl
theorem s_lday {lo hi k v : Int} (F : Fetch mem pc 185) (hlo : get mem (pc + 1) = lo) (hhi : get mem (pc + 2) = hi) (hl0 : 0 ≤ lo ∧ lo < 256) (hh0 : 0 ≤ hi ∧ hi < 256) (hk : lo + hi * 256 + y = k) (hk0 : 0 ≤ k) (hk1 : k < mem.length) (hv : get mem k = v) (h0 : 0 ≤ v) (h1 : v < 256) : Stp ⟨a, x, y, sp, Pf n z c, pc, mem⟩ ⟨v, x, y, sp, Pz v c, pc + 3, mem⟩ := by
  have e1 : (mem.getD (Builtin.bitAnd (pc + 1) 65535).toNat 0) = lo := F.r1 hlo
  have e2 : (mem.getD ((Builtin.bitAnd (pc + 1) 65535) + 1).toNat 0) = hi := F.r2 hhi
  have ek : (Builtin.bitAnd ((mem.getD (Builtin.bitAnd (pc + 1) 65535).toNat 0) + (mem.getD ((Builtin.bitAnd (pc + 1) 65535) + 1).toNat 0) * 2 ^ Int.toNat 8 + y) 65535) = k := by rw [e1, e2, and65535, show (2 : Int) ^ Int.toNat 8 = 256 from rfl]; exact omk hk hk0 hk1 F.sz
  have ib : InB mem.length (Builtin.bitAnd ((mem.getD (Builtin.bitAnd (pc + 1) 65535).toNat 0) + (mem.getD ((Builtin.bitAnd (pc + 1) 65535) + 1).toNat 0) * 2 ^ Int.toNat 8 + y) 65535) := by rw [ek]; exact inB_of hk0 hk1 F.sz
  have iz : ((mem.getD ((Builtin.bitAnd (pc + 1) 65535) + 1).toNat 0)).natAbs < 2 ^ 64 := by rw [e2]; exact om64 hh0
  have ev : (mem.getD (Builtin.bitAnd ((mem.getD (Builtin.bitAnd (pc + 1) 65535).toNat 0) + (mem.getD ((Builtin.bitAnd (pc + 1) 65535) + 1).toNat 0) * 2 ^ Int.toNat 8 + y) 65535).toNat 0) = v := by rw [ek]; exact hv
  cases hq : (Builtin.bitAnd ((mem.getD (Builtin.bitAnd (pc + 1) 65535).toNat 0) + (mem.getD ((Builtin.bitAnd (pc + 1) 65535) + 1).toNat 0) * 2 ^ Int.toNat 8) 65280 != Builtin.bitAnd (Builtin.bitAnd ((mem.getD (Builtin.bitAnd (pc + 1) 65535).toNat 0) + (mem.getD ((Builtin.bitAnd (pc + 1) 65535) + 1).toNat 0) * 2 ^ Int.toNat 8 + y) 65535) 65280) with
  | true =>
    cases hz : ((mem.getD (Builtin.bitAnd ((mem.getD (Builtin.bitAnd (pc + 1) 65535).toNat 0) + (mem.getD ((Builtin.bitAnd (pc + 1) 65535) + 1).toNat 0) * 2 ^ Int.toNat 8 + y) 65535).toNat 0) == 0) with
    | true =>
      refine (stp_of (m := ⟨a, x, y, sp, Pf n z c, pc, mem⟩) (m' := ⟨(mem.getD (Builtin.bitAnd ((mem.getD (Builtin.bitAnd (pc + 1) 65535).toNat 0) + (mem.getD ((Builtin.bitAnd (pc + 1) 65535) + 1).toNat 0) * 2 ^ Int.toNat 8 + y) 65535).toNat 0), x, y, sp, (Builtin.bitOr (Builtin.bitAnd (Pf n z c) (Builtin.bitNot (Builtin.bitOr 2 128))) 2), (Builtin.bitAnd ((Builtin.bitAnd (pc + 1) 65535) + 2) 65535), mem⟩) (o := [.k 185, .b true, .b true]) (ex := 0 + 1) (ad := 1) (junk := [.meth 155 (.obj 1)]) (hg := (gc F.b0 (gc F.op (gc F.b1 (gc F.b2 (gc (show (0 : Int) ≤ 8 by decide) (gc (show (8 : Int) ≤ 1000000 by decide) (gc iz (gc hq (gc ib (gc hz g0))))))))))) (e := fun st => by kernel_rfl)).to ?_
      rw [ev] at hz
      refine mk_eq ev rfl rfl rfl (pz_T hz) F.p3 rfl
    | false =>
      refine (stp_of (m := ⟨a, x, y, sp, Pf n z c, pc, mem⟩) (m' := ⟨(mem.getD (Builtin.bitAnd ((mem.getD (Builtin.bitAnd (pc + 1) 65535).toNat 0) + (mem.getD ((Builtin.bitAnd (pc + 1) 65535) + 1).toNat 0) * 2 ^ Int.toNat 8 + y) 65535).toNat 0), x, y, sp, (Builtin.bitOr (Builtin.bitAnd (Pf n z c) (Builtin.bitNot (Builtin.bitOr 2 128))) (Builtin.bitAnd (mem.getD (Builtin.bitAnd ((mem.getD (Builtin.bitAnd (pc + 1) 65535).toNat 0) + (mem.getD ((Builtin.bitAnd (pc + 1) 65535) + 1).toNat 0) * 2 ^ Int.toNat 8 + y) 65535).toNat 0) 128)), (Builtin.bitAnd ((Builtin.bitAnd (pc + 1) 65535) + 2) 65535), mem⟩) (o := [.k 185, .b true, .b false]) (ex := 0 + 1) (ad := 1) (junk := [.meth 155 (.obj 1)]) (hg := (gc F.b0 (gc F.op (gc F.b1 (gc F.b2 (gc (show (0 : Int) ≤ 8 by decide) (gc (show (8 : Int) ≤ 1000000 by decide) (gc iz (gc hq (gc ib (gc hz g0))))))))))) (e := fun st => by kernel_rfl)).to ?_
      rw [ev] at hz
      refine mk_eq ev rfl rfl rfl (by rw [ev]; exact pz_F h0 h1 hz) F.p3 rfl
  | false =>
    cases hz : ((mem.getD (Builtin.bitAnd ((mem.getD (Builtin.bitAnd (pc + 1) 65535).toNat 0) + (mem.getD ((Builtin.bitAnd (pc + 1) 65535) + 1).toNat 0) * 2 ^ Int.toNat 8 + y) 65535).toNat 0) == 0) with
    | true =>
      refine (stp_of (m := ⟨a, x, y, sp, Pf n z c, pc, mem⟩) (m' := ⟨(mem.getD (Builtin.bitAnd ((mem.getD (Builtin.bitAnd (pc + 1) 65535).toNat 0) + (mem.getD ((Builtin.bitAnd (pc + 1) 65535) + 1).toNat 0) * 2 ^ Int.toNat 8 + y) 65535).toNat 0), x, y, sp, (Builtin.bitOr (Builtin.bitAnd (Pf n z c) (Builtin.bitNot (Builtin.bitOr 2 128))) 2), (Builtin.bitAnd ((Builtin.bitAnd (pc + 1) 65535) + 2) 65535), mem⟩) (o := [.k 185, .b false, .b true]) (ex := 0) (ad := 1) (junk := [.meth 155 (.obj 1)]) (hg := (gc F.b0 (gc F.op (gc F.b1 (gc F.b2 (gc (show (0 : Int) ≤ 8 by decide) (gc (show (8 : Int) ≤ 1000000 by decide) (gc iz (gc hq (gc ib (gc hz g0))))))))))) (e := fun st => by kernel_rfl)).to ?_
      rw [ev] at hz
      refine mk_eq ev rfl rfl rfl (pz_T hz) F.p3 rfl
    | false =>
      refine (stp_of (m := ⟨a, x, y, sp, Pf n z c, pc, mem⟩) (m' := ⟨(mem.getD (Builtin.bitAnd ((mem.getD (Builtin.bitAnd (pc + 1) 65535).toNat 0) + (mem.getD ((Builtin.bitAnd (pc + 1) 65535) + 1).toNat 0) * 2 ^ Int.toNat 8 + y) 65535).toNat 0), x, y, sp, (Builtin.bitOr (Builtin.bitAnd (Pf n z c) (Builtin.bitNot (Builtin.bitOr 2 128))) (Builtin.bitAnd (mem.getD (Builtin.bitAnd ((mem.getD (Builtin.bitAnd (pc + 1) 65535).toNat 0) + (mem.getD ((Builtin.bitAnd (pc + 1) 65535) + 1).toNat 0) * 2 ^ Int.toNat 8 + y) 65535).toNat 0) 128)), (Builtin.bitAnd ((Builtin.bitAnd (pc + 1) 65535) + 2) 65535), mem⟩) (o := [.k 185, .b false, .b false]) (ex := 0) (ad := 1) (junk := [.meth 155 (.obj 1)]) (hg := (gc F.b0 (gc F.op (gc F.b1 (gc F.b2 (gc (show (0 : Int) ≤ 8 by decide) (gc (show (8 : Int) ≤ 1000000 by decide) (gc iz (gc hq (gc ib (gc hz g0))))))))))) (e := fun st => by kernel_rfl)).to ?_
      rw [ev] at hz
      refine mk_eq ev rfl rfl rfl (by rw [ev]; exact pz_F h0 h1 hz) F.p3 rfl
theorem s_cmpy {lo hi k v : Int} (F : Fetch mem pc 217) (hlo : get mem (pc + 1) = lo) (hhi : get mem (pc + 2) = hi) (hl0 : 0 ≤ lo ∧ lo < 256) (hh0 : 0 ≤ hi ∧ hi < 256) (hk : lo + hi * 256 + y = k) (hk0 : 0 ≤ k) (hk1 : k < mem.length) (hv : get mem k = v) (hr : 0 ≤ a ∧ a < 256) (hv0 : 0 ≤ v ∧ v < 256) : Stp ⟨a, x, y, sp, Pf n z c, pc, mem⟩ ⟨a, x, y, sp, Pc a v, pc + 3, mem⟩ := by
  have e1 : (mem.getD (Builtin.bitAnd (pc + 1) 65535).toNat 0) = lo := F.r1 hlo
  have e2 : (mem.getD ((Builtin.bitAnd (pc + 1) 65535) + 1).toNat 0) = hi := F.r2 hhi
  have ek : (Builtin.bitAnd ((mem.getD (Builtin.bitAnd (pc + 1) 65535).toNat 0) + (mem.getD ((Builtin.bitAnd (pc + 1) 65535) + 1).toNat 0) * 2 ^ Int.toNat 8 + y) 65535) = k := by rw [e1, e2, and65535, show (2 : Int) ^ Int.toNat 8 = 256 from rfl]; exact omk hk hk0 hk1 F.sz
  have ib : InB mem.length (Builtin.bitAnd ((mem.getD (Builtin.bitAnd (pc + 1) 65535).toNat 0) + (mem.getD ((Builtin.bitAnd (pc + 1) 65535) + 1).toNat 0) * 2 ^ Int.toNat 8 + y) 65535) := by rw [ek]; exact inB_of hk0 hk1 F.sz
  have iz : ((mem.getD ((Builtin.bitAnd (pc + 1) 65535) + 1).toNat 0)).natAbs < 2 ^ 64 := by rw [e2]; exact om64 hh0
  have ev : (mem.getD (Builtin.bitAnd ((mem.getD (Builtin.bitAnd (pc + 1) 65535).toNat 0) + (mem.getD ((Builtin.bitAnd (pc + 1) 65535) + 1).toNat 0) * 2 ^ Int.toNat 8 + y) 65535).toNat 0) = v := by rw [ek]; exact hv
  cases hq : (Builtin.bitAnd ((mem.getD (Builtin.bitAnd (pc + 1) 65535).toNat 0) + (mem.getD ((Builtin.bitAnd (pc + 1) 65535) + 1).toNat 0) * 2 ^ Int.toNat 8) 65280 != Builtin.bitAnd (Builtin.bitAnd ((mem.getD (Builtin.bitAnd (pc + 1) 65535).toNat 0) + (mem.getD ((Builtin.bitAnd (pc + 1) 65535) + 1).toNat 0) * 2 ^ Int.toNat 8 + y) 65535) 65280) with
  | true =>
    cases h1 : (a == (mem.getD (Builtin.bitAnd ((mem.getD (Builtin.bitAnd (pc + 1) 65535).toNat 0) + (mem.getD ((Builtin.bitAnd (pc + 1) 65535) + 1).toNat 0) * 2 ^ Int.toNat 8 + y) 65535).toNat 0)) with
    | true =>
      refine (stp_of (m := ⟨a, x, y, sp, Pf n z c, pc, mem⟩) (m' := ⟨a, x, y, sp, (Builtin.bitOr (Builtin.bitOr (Builtin.bitAnd (Pf n z c) (Builtin.bitNot (Builtin.bitOr (Builtin.bitOr 1 2) 128))) (Builtin.bitOr 1 2)) (Builtin.bitAnd (a - (mem.getD (Builtin.bitAnd ((mem.getD (Builtin.bitAnd (pc + 1) 65535).toNat 0) + (mem.getD ((Builtin.bitAnd (pc + 1) 65535) + 1).toNat 0) * 2 ^ Int.toNat 8 + y) 65535).toNat 0)) 128)), (Builtin.bitAnd ((Builtin.bitAnd (pc + 1) 65535) + 2) 65535), mem⟩) (o := [.k 217, .b true, .b true]) (ex := 0 + 1) (ad := 1) (junk := [.meth 155 (.obj 1)]) (hg := (gc F.b0 (gc F.op (gc F.b1 (gc F.b2 (gc (show (0 : Int) ≤ 8 by decide) (gc (show (8 : Int) ≤ 1000000 by decide) (gc iz (gc hq (gc ib (gc h1 g0))))))))))) (e := fun st => by kernel_rfl)).to ?_
      refine mk_eq rfl rfl rfl rfl (by rw [ev]; exact p_cE hr hv0 (by rw [ev] at h1; exact h1)) F.p3 rfl
    | false =>
      cases h2 : decide ((mem.getD (Builtin.bitAnd ((mem.getD (Builtin.bitAnd (pc + 1) 65535).toNat 0) + (mem.getD ((Builtin.bitAnd (pc + 1) 65535) + 1).toNat 0) * 2 ^ Int.toNat 8 + y) 65535).toNat 0) < a) with
      | true =>
        refine (stp_of (m := ⟨a, x, y, sp, Pf n z c, pc, mem⟩) (m' := ⟨a, x, y, sp, (Builtin.bitOr (Builtin.bitOr (Builtin.bitAnd (Pf n z c) (Builtin.bitNot (Builtin.bitOr (Builtin.bitOr 1 2) 128))) 1) (Builtin.bitAnd (a - (mem.getD (Builtin.bitAnd ((mem.getD (Builtin.bitAnd (pc + 1) 65535).toNat 0) + (mem.getD ((Builtin.bitAnd (pc + 1) 65535) + 1).toNat 0) * 2 ^ Int.toNat 8 + y) 65535).toNat 0)) 128)), (Builtin.bitAnd ((Builtin.bitAnd (pc + 1) 65535) + 2) 65535), mem⟩) (o := [.k 217, .b true, .b false, .b true]) (ex := 0 + 1) (ad := 1) (junk := [.meth 155 (.obj 1)]) (hg := (gc F.b0 (gc F.op (gc F.b1 (gc F.b2 (gc (show (0 : Int) ≤ 8 by decide) (gc (show (8 : Int) ≤ 1000000 by decide) (gc iz (gc hq (gc ib (gc h1 (gc h2 g0)))))))))))) (e := fun st => by kernel_rfl)).to ?_
        refine mk_eq rfl rfl rfl rfl (by rw [ev]; exact p_cG hr hv0 (by rw [ev] at h1; exact h1) (by rw [ev] at h2; exact h2)) F.p3 rfl
      | false =>
        refine (stp_of (m := ⟨a, x, y, sp, Pf n z c, pc, mem⟩) (m' := ⟨a, x, y, sp, (Builtin.bitOr (Builtin.bitAnd (Pf n z c) (Builtin.bitNot (Builtin.bitOr (Builtin.bitOr 1 2) 128))) (Builtin.bitAnd (a - (mem.getD (Builtin.bitAnd ((mem.getD (Builtin.bitAnd (pc + 1) 65535).toNat 0) + (mem.getD ((Builtin.bitAnd (pc + 1) 65535) + 1).toNat 0) * 2 ^ Int.toNat 8 + y) 65535).toNat 0)) 128)), (Builtin.bitAnd ((Builtin.bitAnd (pc + 1) 65535) + 2) 65535), mem⟩) (o := [.k 217, .b true, .b false, .b false]) (ex := 0 + 1) (ad := 1) (junk := [.meth 155 (.obj 1)]) (hg := (gc F.b0 (gc F.op (gc F.b1 (gc F.b2 (gc (show (0 : Int) ≤ 8 by decide) (gc (show (8 : Int) ≤ 1000000 by decide) (gc iz (gc hq (gc ib (gc h1 (gc h2 g0)))))))))))) (e := fun st => by kernel_rfl)).to ?_
        refine mk_eq rfl rfl rfl rfl (by rw [ev]; exact p_cL hr hv0 (by rw [ev] at h1; exact h1) (by rw [ev] at h2; exact h2)) F.p3 rfl
  | false =>
    cases h1 : (a == (mem.getD (Builtin.bitAnd ((mem.getD (Builtin.bitAnd (pc + 1) 65535).toNat 0) + (mem.getD ((Builtin.bitAnd (pc + 1) 65535) + 1).toNat 0) * 2 ^ Int.toNat 8 + y) 65535).toNat 0)) with
    | true =>
      refine (stp_of (m := ⟨a, x, y, sp, Pf n z c, pc, mem⟩) (m' := ⟨a, x, y, sp, (Builtin.bitOr (Builtin.bitOr (Builtin.bitAnd (Pf n z c) (Builtin.bitNot (Builtin.bitOr (Builtin.bitOr 1 2) 128))) (Builtin.bitOr 1 2)) (Builtin.bitAnd (a - (mem.getD (Builtin.bitAnd ((mem.getD (Builtin.bitAnd (pc + 1) 65535).toNat 0) + (mem.getD ((Builtin.bitAnd (pc + 1) 65535) + 1).toNat 0) * 2 ^ Int.toNat 8 + y) 65535).toNat 0)) 128)), (Builtin.bitAnd ((Builtin.bitAnd (pc + 1) 65535) + 2) 65535), mem⟩) (o := [.k 217, .b false, .b true]) (ex := 0) (ad := 1) (junk := [.meth 155 (.obj 1)]) (hg := (gc F.b0 (gc F.op (gc F.b1 (gc F.b2 (gc (show (0 : Int) ≤ 8 by decide) (gc (show (8 : Int) ≤ 1000000 by decide) (gc iz (gc hq (gc ib (gc h1 g0))))))))))) (e := fun st => by kernel_rfl)).to ?_
      refine mk_eq rfl rfl rfl rfl (by rw [ev]; exact p_cE hr hv0 (by rw [ev] at h1; exact h1)) F.p3 rfl
    | false =>
      cases h2 : decide ((mem.getD (Builtin.bitAnd ((mem.getD (Builtin.bitAnd (pc + 1) 65535).toNat 0) + (mem.getD ((Builtin.bitAnd (pc + 1) 65535) + 1).toNat 0) * 2 ^ Int.toNat 8 + y) 65535).toNat 0) < a) with
      | true =>
        refine (stp_of (m := ⟨a, x, y, sp, Pf n z c, pc, mem⟩) (m' := ⟨a, x, y, sp, (Builtin.bitOr (Builtin.bitOr (Builtin.bitAnd (Pf n z c) (Builtin.bitNot (Builtin.bitOr (Builtin.bitOr 1 2) 128))) 1) (Builtin.bitAnd (a - (mem.getD (Builtin.bitAnd ((mem.getD (Builtin.bitAnd (pc + 1) 65535).toNat 0) + (mem.getD ((Builtin.bitAnd (pc + 1) 65535) + 1).toNat 0) * 2 ^ Int.toNat 8 + y) 65535).toNat 0)) 128)), (Builtin.bitAnd ((Builtin.bitAnd (pc + 1) 65535) + 2) 65535), mem⟩) (o := [.k 217, .b false, .b false, .b true]) (ex := 0) (ad := 1) (junk := [.meth 155 (.obj 1)]) (hg := (gc F.b0 (gc F.op (gc F.b1 (gc F.b2 (gc (show (0 : Int) ≤ 8 by decide) (gc (show (8 : Int) ≤ 1000000 by decide) (gc iz (gc hq (gc ib (gc h1 (gc h2 g0)))))))))))) (e := fun st => by kernel_rfl)).to ?_
        refine mk_eq rfl rfl rfl rfl (by rw [ev]; exact p_cG hr hv0 (by rw [ev] at h1; exact h1) (by rw [ev] at h2; exact h2)) F.p3 rfl
      | false =>
        refine (stp_of (m := ⟨a, x, y, sp, Pf n z c, pc, mem⟩) (m' := ⟨a, x, y, sp, (Builtin.bitOr (Builtin.bitAnd (Pf n z c) (Builtin.bitNot (Builtin.bitOr (Builtin.bitOr 1 2) 128))) (Builtin.bitAnd (a - (mem.getD (Builtin.bitAnd ((mem.getD (Builtin.bitAnd (pc + 1) 65535).toNat 0) + (mem.getD ((Builtin.bitAnd (pc + 1) 65535) + 1).toNat 0) * 2 ^ Int.toNat 8 + y) 65535).toNat 0)) 128)), (Builtin.bitAnd ((Builtin.bitAnd (pc + 1) 65535) + 2) 65535), mem⟩) (o := [.k 217, .b false, .b false, .b false]) (ex := 0) (ad := 1) (junk := [.meth 155 (.obj 1)]) (hg := (gc F.b0 (gc F.op (gc F.b1 (gc F.b2 (gc (show (0 : Int) ≤ 8 by decide) (gc (show (8 : Int) ≤ 1000000 by decide) (gc iz (gc hq (gc ib (gc h1 (gc h2 g0)))))))))))) (e := fun st => by kernel_rfl)).to ?_
        refine mk_eq rfl rfl rfl rfl (by rw [ev]; exact p_cL hr hv0 (by rw [ev] at h1; exact h1) (by rw [ev] at h2; exact h2)) F.p3 rfl
theorem s_jmp (F : Fetch mem pc 76) {lo hi k : Int} (hlo : get mem (pc + 1) = lo) (hhi : get mem (pc + 2) = hi) (hh0 : 0 ≤ hi ∧ hi < 256) (hk : lo + hi * 256 = k) (hk0 : 0 ≤ k) (hk1 : k < 65536) : Stp ⟨a, x, y, sp, Pf n z c, pc, mem⟩ ⟨a, x, y, sp, Pf n z c, k, mem⟩ := by
  have e1 : (mem.getD (Builtin.bitAnd (pc + 1) 65535).toNat 0) = lo := F.r1 hlo
  have e2 : (mem.getD ((Builtin.bitAnd (pc + 1) 65535) + 1).toNat 0) = hi := F.r2 hhi
  have iz : ((mem.getD ((Builtin.bitAnd (pc + 1) 65535) + 1).toNat 0)).natAbs < 2 ^ 64 := by rw [e2]; exact om64 hh0
  have ek : Builtin.bitAnd ((mem.getD (Builtin.bitAnd (pc + 1) 65535).toNat 0) + (mem.getD ((Builtin.bitAnd (pc + 1) 65535) + 1).toNat 0) * 2 ^ Int.toNat 8) 65535 = k := by rw [e1, e2, and65535, show (2 : Int) ^ Int.toNat 8 = 256 from rfl]; exact omj hk hk0 hk1
  refine (stp_of (m := ⟨a, x, y, sp, Pf n z c, pc, mem⟩) (m' := ⟨a, x, y, sp, Pf n z c, Builtin.bitAnd ((mem.getD (Builtin.bitAnd (pc + 1) 65535).toNat 0) + (mem.getD ((Builtin.bitAnd (pc + 1) 65535) + 1).toNat 0) * 2 ^ Int.toNat 8) 65535, mem⟩) (o := [.k 76]) (ex := 0) (ad := 0) (junk := []) (hg := (gc F.b0 (gc F.op (gc F.b1 (gc F.b2 (gc (show (0 : Int) ≤ 8 by decide) (gc (show (8 : Int) ≤ 1000000 by decide) (gc iz g0)))))))) (e := fun st => by kernel_rfl)).to ?_
  exact mk_eq rfl rfl rfl rfl rfl ek rfl
theorem s_rts (F : Fetch mem pc 96) {s1 s2 lo hi k : Int} (hs1 : (sp + 1) % 256 = s1) (hs2 : (s1 + 1) % 256 = s2) (hlo : get mem (s1 + 256) = lo) (hhi : get mem (s2 + 256) = hi) (hh0 : 0 ≤ hi ∧ hi < 256) (hk : lo + hi * 256 + 1 = k) (hk0 : 0 ≤ k) (hk1 : k < 65536) (hm : 512 ≤ mem.length) : Stp ⟨a, x, y, sp, Pf n z c, pc, mem⟩ ⟨a, x, y, s2, Pf n z c, k, mem⟩ := by
  have es1 : (Builtin.bitAnd (sp + 1) 255) = s1 := by rw [and255]; exact hs1
  have es2 : (Builtin.bitAnd ((Builtin.bitAnd (sp + 1) 255) + 1) 255) = s2 := by rw [es1, and255]; exact hs2
  have e1 : (mem.getD ((Builtin.bitAnd (sp + 1) 255) + 256).toNat 0) = lo := by rw [es1]; exact hlo
  have e2 : (mem.getD ((Builtin.bitAnd ((Builtin.bitAnd (sp + 1) 255) + 1) 255) + 256).toNat 0) = hi := by rw [es2]; exact hhi
  have ib1 : InB mem.length ((Builtin.bitAnd (sp + 1) 255) + 256) := by rw [es1]; exact js_b3 hs1 hm F.sz
  have ib2 : InB mem.length ((Builtin.bitAnd ((Builtin.bitAnd (sp + 1) 255) + 1) 255) + 256) := by rw [es2]; exact js_b3 hs2 hm F.sz
  have iz : ((mem.getD ((Builtin.bitAnd ((Builtin.bitAnd (sp + 1) 255) + 1) 255) + 256).toNat 0)).natAbs < 2 ^ 64 := by rw [e2]; exact om64 hh0
  have ek : Builtin.bitAnd ((mem.getD ((Builtin.bitAnd (sp + 1) 255) + 256).toNat 0) + (mem.getD ((Builtin.bitAnd ((Builtin.bitAnd (sp + 1) 255) + 1) 255) + 256).toNat 0) * 2 ^ Int.toNat 8 + 1) 65535 = k := by rw [e1, e2, and65535, show (2 : Int) ^ Int.toNat 8 = 256 from rfl]; exact omj hk hk0 hk1
  refine (stp_of (m := ⟨a, x, y, sp, Pf n z c, pc, mem⟩) (m' := ⟨a, x, y, (Builtin.bitAnd ((Builtin.bitAnd (sp + 1) 255) + 1) 255), Pf n z c, Builtin.bitAnd ((mem.getD ((Builtin.bitAnd (sp + 1) 255) + 256).toNat 0) + (mem.getD ((Builtin.bitAnd ((Builtin.bitAnd (sp + 1) 255) + 1) 255) + 256).toNat 0) * 2 ^ Int.toNat 8 + 1) 65535, mem⟩) (o := [.k 96]) (ex := 0) (ad := 0) (junk := []) (hg := (gc F.b0 (gc F.op (gc ib1 (gc ib2 (gc (show (0 : Int) ≤ 8 by decide) (gc (show (8 : Int) ≤ 1000000 by decide) (gc iz g0)))))))) (e := fun st => by kernel_rfl)).to ?_
  exact mk_eq rfl rfl rfl es2 rfl ek rfl
theorem s_jsr (F : Fetch mem pc 32) {s1 s2 lo hi k rh rl : Int} (hs1 : (sp - 1) % 256 = s1) (hs2 : (s1 - 1) % 256 = s2) (hlo : get mem (pc + 1) = lo) (hhi : get mem (pc + 2) = hi) (hh0 : 0 ≤ hi ∧ hi < 256) (hk : lo + hi * 256 = k) (hk0 : 0 ≤ k) (hk1 : k < 65536) (hp0 : 0 ≤ sp) (hp1 : sp < 256) (hc : 512 ≤ pc) (hrl : (pc + 2) % 256 = rl) (hrh : (pc + 2) / 256 = rh) : Stp ⟨a, x, y, sp, Pf n z c, pc, mem⟩ ⟨a, x, y, s2, Pf n z c, k, (mem.set (sp + 256).toNat rh).set (s1 + 256).toNat rl⟩ := by
  have es1 : (Builtin.bitAnd (sp - 1) 255) = s1 := by rw [and255]; exact hs1
  have es2 : (Builtin.bitAnd ((Builtin.bitAnd (sp - 1) 255) - 1) 255) = s2 := by rw [es1, and255]; exact hs2
  have sz := F.sz
  have hi2 := F.hi
  have eh : (Builtin.bitAnd (Builtin.bitAnd ((Builtin.bitAnd ((Builtin.bitAnd (pc + 1) 65535) + 1) 65535).fdiv (2 ^ Int.toNat 8)) 255) 255) = rh := by rw [F.p2, and255, and255, show (2 : Int) ^ Int.toNat 8 = 256 from rfl, Int.fdiv_eq_ediv_of_nonneg _ (by decide)]; exact js_h hrh hc F.hi F.sz
  have el : (Builtin.bitAnd (Builtin.bitAnd (Builtin.bitAnd ((Builtin.bitAnd (pc + 1) 65535) + 1) 65535) 255) 255) = rl := by rw [F.p2, and255, and255]; exact js_l hrl
  have em : ((mem.set (sp + 256).toNat (Builtin.bitAnd (Builtin.bitAnd ((Builtin.bitAnd ((Builtin.bitAnd (pc + 1) 65535) + 1) 65535).fdiv (2 ^ Int.toNat 8)) 255) 255)).set ((Builtin.bitAnd (sp - 1) 255) + 256).toNat (Builtin.bitAnd (Builtin.bitAnd (Builtin.bitAnd ((Builtin.bitAnd (pc + 1) 65535) + 1) 65535) 255) 255)) = (mem.set (sp + 256).toNat rh).set (s1 + 256).toNat rl := by rw [eh, el, es1]
  have ib1 : InB mem.length (sp + 256) := js_b1 hp0 hp1 hc F.hi F.sz
  have ib2 : InB (mem.set (sp + 256).toNat (Builtin.bitAnd (Builtin.bitAnd ((Builtin.bitAnd ((Builtin.bitAnd (pc + 1) 65535) + 1) 65535).fdiv (2 ^ Int.toNat 8)) 255) 255)).length ((Builtin.bitAnd (sp - 1) 255) + 256) := by rw [List.length_set, es1]; exact js_b2 hs1 hc F.hi F.sz
  have ib3 : InB ((mem.set (sp + 256).toNat (Builtin.bitAnd (Builtin.bitAnd ((Builtin.bitAnd ((Builtin.bitAnd (pc + 1) 65535) + 1) 65535).fdiv (2 ^ Int.toNat 8)) 255) 255)).set ((Builtin.bitAnd (sp - 1) 255) + 256).toNat (Builtin.bitAnd (Builtin.bitAnd (Builtin.bitAnd ((Builtin.bitAnd (pc + 1) 65535) + 1) 65535) 255) 255)).length (Builtin.bitAnd (pc + 1) 65535) := by rw [List.length_set, List.length_set]; exact F.b1
  have ib4 : InB ((mem.set (sp + 256).toNat (Builtin.bitAnd (Builtin.bitAnd ((Builtin.bitAnd ((Builtin.bitAnd (pc + 1) 65535) + 1) 65535).fdiv (2 ^ Int.toNat 8)) 255) 255)).set ((Builtin.bitAnd (sp - 1) 255) + 256).toNat (Builtin.bitAnd (Builtin.bitAnd (Builtin.bitAnd ((Builtin.bitAnd (pc + 1) 65535) + 1) 65535) 255) 255)).length ((Builtin.bitAnd (pc + 1) 65535) + 1) := by rw [List.length_set, List.length_set]; exact F.b2
  have e1 : (((mem.set (sp + 256).toNat (Builtin.bitAnd (Builtin.bitAnd ((Builtin.bitAnd ((Builtin.bitAnd (pc + 1) 65535) + 1) 65535).fdiv (2 ^ Int.toNat 8)) 255) 255)).set ((Builtin.bitAnd (sp - 1) 255) + 256).toNat (Builtin.bitAnd (Builtin.bitAnd (Builtin.bitAnd ((Builtin.bitAnd (pc + 1) 65535) + 1) 65535) 255) 255)).getD (Builtin.bitAnd (pc + 1) 65535).toNat 0) = lo := by rw [em, F.i]; rw [← hlo]; exact js_get hs1 hp0 hp1 hc (Int.le_add_of_nonneg_right (by decide))
  have e2 : (((mem.set (sp + 256).toNat (Builtin.bitAnd (Builtin.bitAnd ((Builtin.bitAnd ((Builtin.bitAnd (pc + 1) 65535) + 1) 65535).fdiv (2 ^ Int.toNat 8)) 255) 255)).set ((Builtin.bitAnd (sp - 1) 255) + 256).toNat (Builtin.bitAnd (Builtin.bitAnd (Builtin.bitAnd ((Builtin.bitAnd (pc + 1) 65535) + 1) 65535) 255) 255)).getD ((Builtin.bitAnd (pc + 1) 65535) + 1).toNat 0) = hi := by rw [em, F.i, show pc + 1 + 1 = pc + 2 from Int.add_assoc pc 1 1]; rw [← hhi]; exact js_get hs1 hp0 hp1 hc (Int.le_add_of_nonneg_right (by decide))
  have iz : ((((mem.set (sp + 256).toNat (Builtin.bitAnd (Builtin.bitAnd ((Builtin.bitAnd ((Builtin.bitAnd (pc + 1) 65535) + 1) 65535).fdiv (2 ^ Int.toNat 8)) 255) 255)).set ((Builtin.bitAnd (sp - 1) 255) + 256).toNat (Builtin.bitAnd (Builtin.bitAnd (Builtin.bitAnd ((Builtin.bitAnd (pc + 1) 65535) + 1) 65535) 255) 255)).getD ((Builtin.bitAnd (pc + 1) 65535) + 1).toNat 0)).natAbs < 2 ^ 64 := by rw [e2]; exact om64 hh0
  have ek : Builtin.bitAnd ((((mem.set (sp + 256).toNat (Builtin.bitAnd (Builtin.bitAnd ((Builtin.bitAnd ((Builtin.bitAnd (pc + 1) 65535) + 1) 65535).fdiv (2 ^ Int.toNat 8)) 255) 255)).set ((Builtin.bitAnd (sp - 1) 255) + 256).toNat (Builtin.bitAnd (Builtin.bitAnd (Builtin.bitAnd ((Builtin.bitAnd (pc + 1) 65535) + 1) 65535) 255) 255)).getD (Builtin.bitAnd (pc + 1) 65535).toNat 0) + (((mem.set (sp + 256).toNat (Builtin.bitAnd (Builtin.bitAnd ((Builtin.bitAnd ((Builtin.bitAnd (pc + 1) 65535) + 1) 65535).fdiv (2 ^ Int.toNat 8)) 255) 255)).set ((Builtin.bitAnd (sp - 1) 255) + 256).toNat (Builtin.bitAnd (Builtin.bitAnd (Builtin.bitAnd ((Builtin.bitAnd (pc + 1) 65535) + 1) 65535) 255) 255)).getD ((Builtin.bitAnd (pc + 1) 65535) + 1).toNat 0) * 2 ^ Int.toNat 8) 65535 = k := by rw [e1, e2, and65535, show (2 : Int) ^ Int.toNat 8 = 256 from rfl]; exact omj hk hk0 hk1
  refine (stp_of (m := ⟨a, x, y, sp, Pf n z c, pc, mem⟩) (m' := ⟨a, x, y, (Builtin.bitAnd ((Builtin.bitAnd (sp - 1) 255) - 1) 255), Pf n z c, Builtin.bitAnd ((((mem.set (sp + 256).toNat (Builtin.bitAnd (Builtin.bitAnd ((Builtin.bitAnd ((Builtin.bitAnd (pc + 1) 65535) + 1) 65535).fdiv (2 ^ Int.toNat 8)) 255) 255)).set ((Builtin.bitAnd (sp - 1) 255) + 256).toNat (Builtin.bitAnd (Builtin.bitAnd (Builtin.bitAnd ((Builtin.bitAnd (pc + 1) 65535) + 1) 65535) 255) 255)).getD (Builtin.bitAnd (pc + 1) 65535).toNat 0) + (((mem.set (sp + 256).toNat (Builtin.bitAnd (Builtin.bitAnd ((Builtin.bitAnd ((Builtin.bitAnd (pc + 1) 65535) + 1) 65535).fdiv (2 ^ Int.toNat 8)) 255) 255)).set ((Builtin.bitAnd (sp - 1) 255) + 256).toNat (Builtin.bitAnd (Builtin.bitAnd (Builtin.bitAnd ((Builtin.bitAnd (pc + 1) 65535) + 1) 65535) 255) 255)).getD ((Builtin.bitAnd (pc + 1) 65535) + 1).toNat 0) * 2 ^ Int.toNat 8) 65535, ((mem.set (sp + 256).toNat (Builtin.bitAnd (Builtin.bitAnd ((Builtin.bitAnd ((Builtin.bitAnd (pc + 1) 65535) + 1) 65535).fdiv (2 ^ Int.toNat 8)) 255) 255)).set ((Builtin.bitAnd (sp - 1) 255) + 256).toNat (Builtin.bitAnd (Builtin.bitAnd (Builtin.bitAnd ((Builtin.bitAnd (pc + 1) 65535) + 1) 65535) 255) 255))⟩) (o := [.k 32]) (ex := 0) (ad := 0) (junk := []) (hg := (gc F.b0 (gc F.op (gc (show (0 : Int) ≤ 8 by decide) (gc ib1 (gc ib2 (gc ib3 (gc ib4 (gc (show (0 : Int) ≤ 8 by decide) (gc (show (8 : Int) ≤ 1000000 by decide) (gc iz g0))))))))))) (e := fun st => by kernel_rfl)).to ?_
  exact mk_eq rfl rfl rfl es2 rfl ek em
theorem s_beq_n (F : Fetch mem pc 240) (hf : z = false) : Stp ⟨a, x, y, sp, Pf n z c, pc, mem⟩ ⟨a, x, y, sp, Pf n z c, pc + 2, mem⟩ := by
  have hz : (Builtin.bitAnd (Pf n z c) 2 != 0) = false := (p_z n z c).trans hf
  refine (stp_of (m := ⟨a, x, y, sp, Pf n z c, pc, mem⟩) (m' := ⟨a, x, y, sp, Pf n z c, (Builtin.bitAnd ((Builtin.bitAnd (pc + 1) 65535) + 1) 65535), mem⟩) (o := [.k 240, .b false]) (ex := 0) (ad := 2) (junk := []) (hg := gc F.b0 (gc F.op (gc hz g0))) (e := fun st => by kernel_rfl)).to ?_
  exact mk_eq rfl rfl rfl rfl rfl F.p2 rfl
theorem s_beq_t {v k : Int} (F : Fetch mem pc 240) (hf : z = true) (hv : get mem (pc + 1) = v) (hv0 : 0 ≤ v ∧ v < 256) (hk : k = pc + 2 + (if 128 ≤ v then v - 256 else v)) (hk0 : 0 ≤ k) (hk1 : k < 65536) : Stp ⟨a, x, y, sp, Pf n z c, pc, mem⟩ ⟨a, x, y, sp, Pf n z c, k, mem⟩ := by
  have hz : (Builtin.bitAnd (Pf n z c) 2 != 0) = true := (p_z n z c).trans hf
  have ev : (mem.getD (Builtin.bitAnd (pc + 1) 65535).toNat 0) = v := F.r1 hv
  cases hs : (Builtin.bitAnd (mem.getD (Builtin.bitAnd (pc + 1) 65535).toNat 0) 128 != 0) with
  | true =>
    have hs0 := hs
    rw [ev, and128v hv0.1 hv0.2] at hs0
    have ek : Builtin.bitAnd (Builtin.bitAnd ((Builtin.bitAnd (pc + 1) 65535) + 1 - Builtin.bitXor (mem.getD (Builtin.bitAnd (pc + 1) 65535).toNat 0) 255 - 1) 65535) 65535 = k := by
      have h8 : 128 ≤ v := by by_cases q : 128 ≤ v; exact q; (rw [if_neg q] at hs0; cases hs0)
      rw [ev, F.i, xor255 hv0.1 hv0.2, and65535, and65535]; rw [if_pos h8] at hk; omega
    cases hq : (Builtin.bitAnd ((Builtin.bitAnd (pc + 1) 65535) + 1) 65280 != Builtin.bitAnd ((Builtin.bitAnd (pc + 1) 65535) + 1 - Builtin.bitXor (mem.getD (Builtin.bitAnd (pc + 1) 65535).toNat 0) 255 - 1) 65280) with
    | true =>
      refine (stp_of (m := ⟨a, x, y, sp, Pf n z c, pc, mem⟩) (m' := ⟨a, x, y, sp, Pf n z c, Builtin.bitAnd (Builtin.bitAnd ((Builtin.bitAnd (pc + 1) 65535) + 1 - Builtin.bitXor (mem.getD (Builtin.bitAnd (pc + 1) 65535).toNat 0) 255 - 1) 65535) 65535, mem⟩) (o := [.k 240, .b true, .b true, .b true]) (ex := 0 + 1 + 1) (ad := 2) (junk := []) (hg := gc F.b0 (gc F.op (gc hz (gc F.b1 (gc hs (gc hq g0)))))) (e := fun st => by kernel_rfl)).to ?_
      exact mk_eq rfl rfl rfl rfl rfl ek rfl
    | false =>
      refine (stp_of (m := ⟨a, x, y, sp, Pf n z c, pc, mem⟩) (m' := ⟨a, x, y, sp, Pf n z c, Builtin.bitAnd (Builtin.bitAnd ((Builtin.bitAnd (pc + 1) 65535) + 1 - Builtin.bitXor (mem.getD (Builtin.bitAnd (pc + 1) 65535).toNat 0) 255 - 1) 65535) 65535, mem⟩) (o := [.k 240, .b true, .b true, .b false]) (ex := 0 + 1) (ad := 2) (junk := []) (hg := gc F.b0 (gc F.op (gc hz (gc F.b1 (gc hs (gc hq g0)))))) (e := fun st => by kernel_rfl)).to ?_
      exact mk_eq rfl rfl rfl rfl rfl ek rfl
  | false =>
    have hs0 := hs
    rw [ev, and128v hv0.1 hv0.2] at hs0
    have ek : Builtin.bitAnd (Builtin.bitAnd ((Builtin.bitAnd (pc + 1) 65535) + 1 + (mem.getD (Builtin.bitAnd (pc + 1) 65535).toNat 0)) 65535) 65535 = k := by
      have h8 : ¬ 128 ≤ v := fun q => by rw [if_pos q] at hs0; cases hs0
      rw [ev, F.i, and65535, and65535]; rw [if_neg h8] at hk; omega
    cases hq : (Builtin.bitAnd ((Builtin.bitAnd (pc + 1) 65535) + 1) 65280 != Builtin.bitAnd ((Builtin.bitAnd (pc + 1) 65535) + 1 + (mem.getD (Builtin.bitAnd (pc + 1) 65535).toNat 0)) 65280) with
    | true =>
      refine (stp_of (m := ⟨a, x, y, sp, Pf n z c, pc, mem⟩) (m' := ⟨a, x, y, sp, Pf n z c, Builtin.bitAnd (Builtin.bitAnd ((Builtin.bitAnd (pc + 1) 65535) + 1 + (mem.getD (Builtin.bitAnd (pc + 1) 65535).toNat 0)) 65535) 65535, mem⟩) (o := [.k 240, .b true, .b false, .b true]) (ex := 0 + 1 + 1) (ad := 2) (junk := []) (hg := gc F.b0 (gc F.op (gc hz (gc F.b1 (gc hs (gc hq g0)))))) (e := fun st => by kernel_rfl)).to ?_
      exact mk_eq rfl rfl rfl rfl rfl ek rfl
    | false =>
      refine (stp_of (m := ⟨a, x, y, sp, Pf n z c, pc, mem⟩) (m' := ⟨a, x, y, sp, Pf n z c, Builtin.bitAnd (Builtin.bitAnd ((Builtin.bitAnd (pc + 1) 65535) + 1 + (mem.getD (Builtin.bitAnd (pc + 1) 65535).toNat 0)) 65535) 65535, mem⟩) (o := [.k 240, .b true, .b false, .b false]) (ex := 0 + 1) (ad := 2) (junk := []) (hg := gc F.b0 (gc F.op (gc hz (gc F.b1 (gc hs (gc hq g0)))))) (e := fun st => by kernel_rfl)).to ?_
      exact mk_eq rfl rfl rfl rfl rfl ek rfl
theorem s_bne_n (F : Fetch mem pc 208) (hf : z = true) : Stp ⟨a, x, y, sp, Pf n z c, pc, mem⟩ ⟨a, x, y, sp, Pf n z c, pc + 2, mem⟩ := by
  have hz : (Builtin.bitAnd (Pf n z c) 2 != 0) = true := (p_z n z c).trans hf
  refine (stp_of (m := ⟨a, x, y, sp, Pf n z c, pc, mem⟩) (m' := ⟨a, x, y, sp, Pf n z c, (Builtin.bitAnd ((Builtin.bitAnd (pc + 1) 65535) + 1) 65535), mem⟩) (o := [.k 208, .b true]) (ex := 0) (ad := 2) (junk := []) (hg := gc F.b0 (gc F.op (gc hz g0))) (e := fun st => by kernel_rfl)).to ?_
  exact mk_eq rfl rfl rfl rfl rfl F.p2 rfl
theorem s_bne_t {v k : Int} (F : Fetch mem pc 208) (hf : z = false) (hv : get mem (pc + 1) = v) (hv0 : 0 ≤ v ∧ v < 256) (hk : k = pc + 2 + (if 128 ≤ v then v - 256 else v)) (hk0 : 0 ≤ k) (hk1 : k < 65536) : Stp ⟨a, x, y, sp, Pf n z c, pc, mem⟩ ⟨a, x, y, sp, Pf n z c, k, mem⟩ := by
  have hz : (Builtin.bitAnd (Pf n z c) 2 != 0) = false := (p_z n z c).trans hf
  have ev : (mem.getD (Builtin.bitAnd (pc + 1) 65535).toNat 0) = v := F.r1 hv
  cases hs : (Builtin.bitAnd (mem.getD (Builtin.bitAnd (pc + 1) 65535).toNat 0) 128 != 0) with
  | true =>
    have hs0 := hs
    rw [ev, and128v hv0.1 hv0.2] at hs0
    have ek : Builtin.bitAnd (Builtin.bitAnd ((Builtin.bitAnd (pc + 1) 65535) + 1 - Builtin.bitXor (mem.getD (Builtin.bitAnd (pc + 1) 65535).toNat 0) 255 - 1) 65535) 65535 = k := by
      have h8 : 128 ≤ v := by by_cases q : 128 ≤ v; exact q; (rw [if_neg q] at hs0; cases hs0)
      rw [ev, F.i, xor255 hv0.1 hv0.2, and65535, and65535]; rw [if_pos h8] at hk; omega
    cases hq : (Builtin.bitAnd ((Builtin.bitAnd (pc + 1) 65535) + 1) 65280 != Builtin.bitAnd ((Builtin.bitAnd (pc + 1) 65535) + 1 - Builtin.bitXor (mem.getD (Builtin.bitAnd (pc + 1) 65535).toNat 0) 255 - 1) 65280) with
    | true =>
      refine (stp_of (m := ⟨a, x, y, sp, Pf n z c, pc, mem⟩) (m' := ⟨a, x, y, sp, Pf n z c, Builtin.bitAnd (Builtin.bitAnd ((Builtin.bitAnd (pc + 1) 65535) + 1 - Builtin.bitXor (mem.getD (Builtin.bitAnd (pc + 1) 65535).toNat 0) 255 - 1) 65535) 65535, mem⟩) (o := [.k 208, .b false, .b true, .b true]) (ex := 0 + 1 + 1) (ad := 2) (junk := []) (hg := gc F.b0 (gc F.op (gc hz (gc F.b1 (gc hs (gc hq g0)))))) (e := fun st => by kernel_rfl)).to ?_
      exact mk_eq rfl rfl rfl rfl rfl ek rfl
    | false =>
      refine (stp_of (m := ⟨a, x, y, sp, Pf n z c, pc, mem⟩) (m' := ⟨a, x, y, sp, Pf n z c, Builtin.bitAnd (Builtin.bitAnd ((Builtin.bitAnd (pc + 1) 65535) + 1 - Builtin.bitXor (mem.getD (Builtin.bitAnd (pc + 1) 65535).toNat 0) 255 - 1) 65535) 65535, mem⟩) (o := [.k 208, .b false, .b true, .b false]) (ex := 0 + 1) (ad := 2) (junk := []) (hg := gc F.b0 (gc F.op (gc hz (gc F.b1 (gc hs (gc hq g0)))))) (e := fun st => by kernel_rfl)).to ?_
      exact mk_eq rfl rfl rfl rfl rfl ek rfl
  | false =>
    have hs0 := hs
    rw [ev, and128v hv0.1 hv0.2] at hs0
    have ek : Builtin.bitAnd (Builtin.bitAnd ((Builtin.bitAnd (pc + 1) 65535) + 1 + (mem.getD (Builtin.bitAnd (pc + 1) 65535).toNat 0)) 65535) 65535 = k := by
      have h8 : ¬ 128 ≤ v := fun q => by rw [if_pos q] at hs0; cases hs0
      rw [ev, F.i, and65535, and65535]; rw [if_neg h8] at hk; omega
    cases hq : (Builtin.bitAnd ((Builtin.bitAnd (pc + 1) 65535) + 1) 65280 != Builtin.bitAnd ((Builtin.bitAnd (pc + 1) 65535) + 1 + (mem.getD (Builtin.bitAnd (pc + 1) 65535).toNat 0)) 65280) with
    | true =>
      refine (stp_of (m := ⟨a, x, y, sp, Pf n z c, pc, mem⟩) (m' := ⟨a, x, y, sp, Pf n z c, Builtin.bitAnd (Builtin.bitAnd ((Builtin.bitAnd (pc + 1) 65535) + 1 + (mem.getD (Builtin.bitAnd (pc + 1) 65535).toNat 0)) 65535) 65535, mem⟩) (o := [.k 208, .b false, .b false, .b true]) (ex := 0 + 1 + 1) (ad := 2) (junk := []) (hg := gc F.b0 (gc F.op (gc hz (gc F.b1 (gc hs (gc hq g0)))))) (e := fun st => by kernel_rfl)).to ?_
      exact mk_eq rfl rfl rfl rfl rfl ek rfl
    | false =>
      refine (stp_of (m := ⟨a, x, y, sp, Pf n z c, pc, mem⟩) (m' := ⟨a, x, y, sp, Pf n z c, Builtin.bitAnd (Builtin.bitAnd ((Builtin.bitAnd (pc + 1) 65535) + 1 + (mem.getD (Builtin.bitAnd (pc + 1) 65535).toNat 0)) 65535) 65535, mem⟩) (o := [.k 208, .b false, .b false, .b false]) (ex := 0 + 1) (ad := 2) (junk := []) (hg := gc F.b0 (gc F.op (gc hz (gc F.b1 (gc hs (gc hq g0)))))) (e := fun st => by kernel_rfl)).to ?_
      exact mk_eq rfl rfl rfl rfl rfl ek rfl
theorem s_bcs_n (F : Fetch mem pc 176) (hf : c = false) : Stp ⟨a, x, y, sp, Pf n z c, pc, mem⟩ ⟨a, x, y, sp, Pf n z c, pc + 2, mem⟩ := by
  have hz : (Builtin.bitAnd (Pf n z c) 1 != 0) = false := (p_c n z c).trans hf
  refine (stp_of (m := ⟨a, x, y, sp, Pf n z c, pc, mem⟩) (m' := ⟨a, x, y, sp, Pf n z c, (Builtin.bitAnd ((Builtin.bitAnd (pc + 1) 65535) + 1) 65535), mem⟩) (o := [.k 176, .b false]) (ex := 0) (ad := 2) (junk := []) (hg := gc F.b0 (gc F.op (gc hz g0))) (e := fun st => by kernel_rfl)).to ?_
  exact mk_eq rfl rfl rfl rfl rfl F.p2 rfl
theorem s_bcs_t {v k : Int} (F : Fetch mem pc 176) (hf : c = true) (hv : get mem (pc + 1) = v) (hv0 : 0 ≤ v ∧ v < 256) (hk : k = pc + 2 + (if 128 ≤ v then v - 256 else v)) (hk0 : 0 ≤ k) (hk1 : k < 65536) : Stp ⟨a, x, y, sp, Pf n z c, pc, mem⟩ ⟨a, x, y, sp, Pf n z c, k, mem⟩ := by
  have hz : (Builtin.bitAnd (Pf n z c) 1 != 0) = true := (p_c n z c).trans hf
  have ev : (mem.getD (Builtin.bitAnd (pc + 1) 65535).toNat 0) = v := F.r1 hv
  cases hs : (Builtin.bitAnd (mem.getD (Builtin.bitAnd (pc + 1) 65535).toNat 0) 128 != 0) with
  | true =>
    have hs0 := hs
    rw [ev, and128v hv0.1 hv0.2] at hs0
    have ek : Builtin.bitAnd (Builtin.bitAnd ((Builtin.bitAnd (pc + 1) 65535) + 1 - Builtin.bitXor (mem.getD (Builtin.bitAnd (pc + 1) 65535).toNat 0) 255 - 1) 65535) 65535 = k := by
      have h8 : 128 ≤ v := by by_cases q : 128 ≤ v; exact q; (rw [if_neg q] at hs0; cases hs0)
      rw [ev, F.i, xor255 hv0.1 hv0.2, and65535, and65535]; rw [if_pos h8] at hk; omega
    cases hq : (Builtin.bitAnd ((Builtin.bitAnd (pc + 1) 65535) + 1) 65280 != Builtin.bitAnd ((Builtin.bitAnd (pc + 1) 65535) + 1 - Builtin.bitXor (mem.getD (Builtin.bitAnd (pc + 1) 65535).toNat 0) 255 - 1) 65280) with
    | true =>
      refine (stp_of (m := ⟨a, x, y, sp, Pf n z c, pc, mem⟩) (m' := ⟨a, x, y, sp, Pf n z c, Builtin.bitAnd (Builtin.bitAnd ((Builtin.bitAnd (pc + 1) 65535) + 1 - Builtin.bitXor (mem.getD (Builtin.bitAnd (pc + 1) 65535).toNat 0) 255 - 1) 65535) 65535, mem⟩) (o := [.k 176, .b true, .b true, .b true]) (ex := 0 + 1 + 1) (ad := 2) (junk := []) (hg := gc F.b0 (gc F.op (gc hz (gc F.b1 (gc hs (gc hq g0)))))) (e := fun st => by kernel_rfl)).to ?_
      exact mk_eq rfl rfl rfl rfl rfl ek rfl
    | false =>
      refine (stp_of (m := ⟨a, x, y, sp, Pf n z c, pc, mem⟩) (m' := ⟨a, x, y, sp, Pf n z c, Builtin.bitAnd (Builtin.bitAnd ((Builtin.bitAnd (pc + 1) 65535) + 1 - Builtin.bitXor (mem.getD (Builtin.bitAnd (pc + 1) 65535).toNat 0) 255 - 1) 65535) 65535, mem⟩) (o := [.k 176, .b true, .b true, .b false]) (ex := 0 + 1) (ad := 2) (junk := []) (hg := gc F.b0 (gc F.op (gc hz (gc F.b1 (gc hs (gc hq g0)))))) (e := fun st => by kernel_rfl)).to ?_
      exact mk_eq rfl rfl rfl rfl rfl ek rfl
  | false =>
    have hs0 := hs
    rw [ev, and128v hv0.1 hv0.2] at hs0
    have ek : Builtin.bitAnd (Builtin.bitAnd ((Builtin.bitAnd (pc + 1) 65535) + 1 + (mem.getD (Builtin.bitAnd (pc + 1) 65535).toNat 0)) 65535) 65535 = k := by
      have h8 : ¬ 128 ≤ v := fun q => by rw [if_pos q] at hs0; cases hs0
      rw [ev, F.i, and65535, and65535]; rw [if_neg h8] at hk; omega
    cases hq : (Builtin.bitAnd ((Builtin.bitAnd (pc + 1) 65535) + 1) 65280 != Builtin.bitAnd ((Builtin.bitAnd (pc + 1) 65535) + 1 + (mem.getD (Builtin.bitAnd (pc + 1) 65535).toNat 0)) 65280) with
    | true =>
      refine (stp_of (m := ⟨a, x, y, sp, Pf n z c, pc, mem⟩) (m' := ⟨a, x, y, sp, Pf n z c, Builtin.bitAnd (Builtin.bitAnd ((Builtin.bitAnd (pc + 1) 65535) + 1 + (mem.getD (Builtin.bitAnd (pc + 1) 65535).toNat 0)) 65535) 65535, mem⟩) (o := [.k 176, .b true, .b false, .b true]) (ex := 0 + 1 + 1) (ad := 2) (junk := []) (hg := gc F.b0 (gc F.op (gc hz (gc F.b1 (gc hs (gc hq g0)))))) (e := fun st => by kernel_rfl)).to ?_
      exact mk_eq rfl rfl rfl rfl rfl ek rfl
    | false =>
      refine (stp_of (m := ⟨a, x, y, sp, Pf n z c, pc, mem⟩) (m' := ⟨a, x, y, sp, Pf n z c, Builtin.bitAnd (Builtin.bitAnd ((Builtin.bitAnd (pc + 1) 65535) + 1 + (mem.getD (Builtin.bitAnd (pc + 1) 65535).toNat 0)) 65535) 65535, mem⟩) (o := [.k 176, .b true, .b false, .b false]) (ex := 0 + 1) (ad := 2) (junk := []) (hg := gc F.b0 (gc F.op (gc hz (gc F.b1 (gc hs (gc hq g0)))))) (e := fun st => by kernel_rfl)).to ?_
      exact mk_eq rfl rfl rfl rfl rfl ek rfl
theorem s_rola0 (F : Fetch mem pc 42) : Stp ⟨0, x, y, sp, Pf n z c, pc, mem⟩ ⟨match c with | true => 1 | false => 0, x, y, sp, Pf false (!c) false, pc + 1, mem⟩ := by
  have hc := p_c n z c
  have hb : (Builtin.bitAnd 0 128 != 0) = false := by decide +kernel
  have hs : (0 : Int) ≤ 1 := by decide
  have hs2 : (1 : Int) ≤ 1000000 := by decide
  have hs3 : (0 : Int).natAbs < 2 ^ 64 := by decide
  cases c with
  | true =>
    have ht : (Builtin.bitAnd (Builtin.bitOr ((0 : Int) * 2 ^ Int.toNat 1) 1) 255 == 0) = false := by decide +kernel
    refine (stp_of (m := ⟨0, x, y, sp, Pf n z true, pc, mem⟩) (m' := ⟨Builtin.bitAnd (Builtin.bitOr ((0 : Int) * 2 ^ Int.toNat 1) 1) 255, x, y, sp, Builtin.bitOr (Builtin.bitAnd (Builtin.bitAnd (Pf n z true) (Builtin.bitNot 1)) (Builtin.bitNot (Builtin.bitOr 2 128))) (Builtin.bitAnd (Builtin.bitAnd (Builtin.bitOr ((0 : Int) * 2 ^ Int.toNat 1) 1) 255) 128), (Builtin.bitAnd (Builtin.bitAnd (pc + 1) 65535) 65535), mem⟩) (o := [.k 42, .b true, .b false, .b false]) (ex := 0) (ad := 0) (junk := []) (hg := gc F.b0 (gc F.op (gc hc (gc hb (gc hs (gc hs2 (gc hs3 (gc ht g0)))))))) (e := fun st => by kernel_rfl)).to ?_
    exact mk_eq (by decide +kernel) rfl rfl rfl (by cases n <;> cases z <;> decide +kernel) F.p1 rfl
  | false =>
    have ht : (Builtin.bitAnd ((0 : Int) * 2 ^ Int.toNat 1) 255 == 0) = true := by decide +kernel
    refine (stp_of (m := ⟨0, x, y, sp, Pf n z false, pc, mem⟩) (m' := ⟨Builtin.bitAnd ((0 : Int) * 2 ^ Int.toNat 1) 255, x, y, sp, Builtin.bitOr (Builtin.bitAnd (Pf n z false) (Builtin.bitNot (Builtin.bitOr 2 128))) 2, (Builtin.bitAnd (Builtin.bitAnd (pc + 1) 65535) 65535), mem⟩) (o := [.k 42, .b false, .b false, .b true]) (ex := 0) (ad := 0) (junk := []) (hg := gc F.b0 (gc F.op (gc hc (gc hb (gc hs (gc hs2 (gc hs3 (gc ht g0)))))))) (e := fun st => by kernel_rfl)).to ?_
    exact mk_eq (by decide +kernel) rfl rfl rfl (by cases n <;> cases z <;> decide +kernel) F.p1 rfl
end
end Mine
/-! text U4 -/
open PySem PySem.W PyProof.Rows PySem.Spec PySem.Calls
set_option Elab.async false
set_option maxRecDepth 100000
set_option maxHeartbeats 0
namespace Mine
/-! the table of the law -/
noncomputable def lawPm : Value := .str (Str.ofString "law_im0095_04") 2249
noncomputable def fnOfRec (i a : Nat) : Option Fn := match (pw.main.body.drop i).head? with
  | some (.FunctionDef name args body _ _ _ scope _ _ _) => some { a, name, qual := name, params := args, body, cs := scope, dV := .none, kV := .none, doc := .none, pm := lawPm, an := none, cd := .ref (a - 1), ct := .none, xs := args.args.map (·.arg), rest := (scope.names.filter fun p => p.2 == .local && !(args.args.map (·.arg)).contains p.1).map (·.1) }
  | _ => none
noncomputable def lawFns : List Fn := [(4, 1439), (5, 1446), (6, 1453), (7, 1460), (8, 1467), (10, 1528)].filterMap fun p => fnOfRec p.1 p.2
noncomputable def tupL : List (Nat × Nat × List AV) := [(1468, 2281, [.str (Str.ofString "at"), .str (Str.ofString "main")]), (1469, 2283, [.str (Str.ofString "ldx"), .cint 0]), (1470, 2285, [.str (Str.ofString "ldy"), .cint 0]), (1471, 2287, [.str (Str.ofString "jsr"), .str (Str.ofString "match")]), (1472, 2289, [.str (Str.ofString "lda"), .cint 0]), (1473, 2291, [.str (Str.ofString "rola"), .cint 0]), (1474, 2293, [.str (Str.ofString "sta2"), .cint 16]), (1475, 2295, [.str (Str.ofString "jmp"), .str (Str.ofString "stop")]), (1476, 2297, [.str (Str.ofString "at"), .str (Str.ofString "match")]), (1477, 2299, [.str (Str.ofString "ldax"), .cint 1024]), (1478, 2301, [.str (Str.ofString "beq"), .str (Str.ofString "end")]), (1479, 2303, [.str (Str.ofString "cmp"), .cint 42]), (1480, 2305, [.str (Str.ofString "beq"), .str (Str.ofString "star")]), (1481, 2307, [.str (Str.ofString "cmp"), .cint 63]), (1482, 2309, [.str (Str.ofString "beq"), .str (Str.ofString "any")]), (1483, 2311, [.str (Str.ofString "cmpy"), .cint 1056]), (1484, 2313, [.str (Str.ofString "bne"), .str (Str.ofString "fail")]), (1485, 2315, [.str (Str.ofString "inx"), .cint 0]), (1486, 2317, [.str (Str.ofString "iny"), .cint 0]), (1487, 2319, [.str (Str.ofString "jmp"), .str (Str.ofString "match")]), (1488, 2321, [.str (Str.ofString "at"), .str (Str.ofString "any")]), (1489, 2323, [.str (Str.ofString "lday"), .cint 1056]), (1490, 2325, [.str (Str.ofString "beq"), .str (Str.ofString "fail")]), (1491, 2327, [.str (Str.ofString "inx"), .cint 0]), (1492, 2329, [.str (Str.ofString "iny"), .cint 0]), (1493, 2331, [.str (Str.ofString "jmp"), .str (Str.ofString "match")]), (1494, 2333, [.str (Str.ofString "at"), .str (Str.ofString "star")]), (1495, 2335, [.str (Str.ofString "txa"), .cint 0]), (1496, 2337, [.str (Str.ofString "pha"), .cint 0]), (1497, 2339, [.str (Str.ofString "tya"), .cint 0]), (1498, 2341, [.str (Str.ofString "pha"), .cint 0]), (1499, 2343, [.str (Str.ofString "inx"), .cint 0]), (1500, 2345, [.str (Str.ofString "jsr"), .str (Str.ofString "match")]), (1501, 2347, [.str (Str.ofString "pla"), .cint 0]), (1502, 2349, [.str (Str.ofString "tay"), .cint 0]), (1503, 2351, [.str (Str.ofString "pla"), .cint 0]), (1504, 2353, [.str (Str.ofString "tax"), .cint 0]), (1505, 2355, [.str (Str.ofString "bcs"), .str (Str.ofString "out")]), (1506, 2357, [.str (Str.ofString "lday"), .cint 1056]), (1507, 2359, [.str (Str.ofString "beq"), .str (Str.ofString "fail")]), (1508, 2361, [.str (Str.ofString "iny"), .cint 0]), (1509, 2363, [.str (Str.ofString "jmp"), .str (Str.ofString "match")]), (1510, 2365, [.str (Str.ofString "at"), .str (Str.ofString "end")]), (1511, 2367, [.str (Str.ofString "lday"), .cint 1056]), (1512, 2369, [.str (Str.ofString "beq"), .str (Str.ofString "yes")]), (1513, 2371, [.str (Str.ofString "at"), .str (Str.ofString "fail")]), (1514, 2373, [.str (Str.ofString "clc"), .cint 0]), (1515, 2375, [.str (Str.ofString "rts"), .cint 0]), (1516, 2377, [.str (Str.ofString "at"), .str (Str.ofString "yes")]), (1517, 2379, [.str (Str.ofString "sec"), .cint 0]), (1518, 2381, [.str (Str.ofString "at"), .str (Str.ofString "out")]), (1519, 2383, [.str (Str.ofString "rts"), .cint 0]), (1520, 2385, [.str (Str.ofString "at"), .str (Str.ofString "stop")])]
noncomputable def rowL : List AV := [.val (.ref 1468), .val (.ref 1469), .val (.ref 1470), .val (.ref 1471), .val (.ref 1472), .val (.ref 1473), .val (.ref 1474), .val (.ref 1475), .val (.ref 1476), .val (.ref 1477), .val (.ref 1478), .val (.ref 1479), .val (.ref 1480), .val (.ref 1481), .val (.ref 1482), .val (.ref 1483), .val (.ref 1484), .val (.ref 1485), .val (.ref 1486), .val (.ref 1487), .val (.ref 1488), .val (.ref 1489), .val (.ref 1490), .val (.ref 1491), .val (.ref 1492), .val (.ref 1493), .val (.ref 1494), .val (.ref 1495), .val (.ref 1496), .val (.ref 1497), .val (.ref 1498), .val (.ref 1499), .val (.ref 1500), .val (.ref 1501), .val (.ref 1502), .val (.ref 1503), .val (.ref 1504), .val (.ref 1505), .val (.ref 1506), .val (.ref 1507), .val (.ref 1508), .val (.ref 1509), .val (.ref 1510), .val (.ref 1511), .val (.ref 1512), .val (.ref 1513), .val (.ref 1514), .val (.ref 1515), .val (.ref 1516), .val (.ref 1517), .val (.ref 1518), .val (.ref 1519), .val (.ref 1520)]
noncomputable def globL : List (Str × Value) := [(Str.ofString "MPU", .ref 1428), (Str.ofString "_law_one", .ref 1439), (Str.ofString "_law_two", .ref 1446), (Str.ofString "_law_three", .ref 1453), (Str.ofString "_law_near", .ref 1460), (Str.ofString "_law_more", .ref 1467), (Str.ofString "_law_build", .ref 1528), (Str.ofString "_law_rows", .ref 1521)]
noncomputable def bltL : List (Str × Blt) := [(Str.ofString "len", .len), (Str.ofString "sum", .sum), (Str.ofString "range", .range), (Str.ofString "isinstance", .isinstance), (Str.ofString "bool", .bool), (Str.ofString "str", .str)]
noncomputable def U4 : Tab2 where
  T := { T4 with globs := globL, blts := bltL, fns := lawFns ++ fnsC }
  rows := [(1521, rowL)]
  tups := tupL.map fun p => (p.1, p.2.2)
noncomputable def valAt (t : Nat) : AV → Value
  | .str x => .str x t
  | .cint i => .int i t
  | .val v => v
  | _ => .none
noncomputable def simpleV : AV → Bool
  | .str _ => true
  | .cint _ => true
  | .val _ => true
  | _ => false
noncomputable def valsFrom : Nat → List AV → List Value
  | _, [] => []
  | t, x :: xs => valAt t x :: valsFrom (t + 1) xs
theorem valsFrom_ok : ∀ {xs : List AV} {t : Nat}, xs.all simpleV = true → RVs [] xs (valsFrom t xs)
  | [], _, _ => .nil
  | x :: xs, t, h => by
    rw [List.all_cons, Bool.and_eq_true] at h
    refine .cons ?_ (valsFrom_ok h.2)
    cases x <;> first | (cases h.1; done) | exact ⟨t, rfl⟩ | exact rfl
theorem u_globs (P : Params) : (globL.map fun p => nsIn (K P) mainGlobals p.1) = globL.map fun p => some (some p.2) := by kernel_rfl
theorem u_blts (P : Params) : (bltL.map fun p => nsIn (K P) mainGlobals p.1) = bltL.map fun _ => some none := by kernel_rfl
theorem u_boot : (bltL.map fun p => bootBuiltins p.1) = bltL.map fun p => some p.2.value := by kernel_rfl
theorem u_tups (P : Params) : (tupL.map fun p => (K P).lookup p.1) = tupL.map fun p => some (⟨.type "tuple", none, .seq (valsFrom p.2.1 p.2.2).toArray, #[]⟩ : Obj) := by kernel_rfl
theorem u_simple : (tupL.all fun p => p.2.2.all simpleV) = true := by kernel_rfl
theorem u_rows (P : Params) : (K P).lookup 1521 = some (⟨.type "list", none, .seq (valsFrom 0 rowL).toArray, #[]⟩ : Obj) := by kernel_rfl
theorem u_simpleR : rowL.all simpleV = true := by kernel_rfl
theorem u_keep (P : Params) : (lawFns.all fun F => keepIn (K P) (.ref F.a) && fnIn (K P) F.a && codeIn (K P) F.cd F.qual) = true := by kernel_rfl
theorem u_at (P : Params) : (lawFns.map fun F => (K P).lookup F.a) = lawFns.map fun F => some F.obj := by kernel_rfl
theorem u_sc : (lawFns.all scOk) = true := by kernel_rfl
theorem u_bind : (lawFns.map fun F => fun (v w x y : Value) => bindArgs F.data ⟨[v, w, x, y].take F.xs.length, []⟩) = lawFns.map fun F => fun v w x y => pure (F.xs.zip ([v, w, x, y].take F.xs.length)) := by kernel_rfl
theorem lawFns_ok : ∀ F ∈ lawFns, FnOk K F ∧ ∀ P, keepIn (K P) (.ref F.a) = true ∧ fnIn (K P) F.a = true := by
  intro F hF
  have s := all_of u_sc F hF
  unfold scOk at s
  simp only [Bool.and_eq_true, Bool.not_eq_true', beq_iff_eq, decide_eq_true_eq, List.all_eq_true, bne_iff_ne] at s
  obtain ⟨⟨⟨⟨⟨⟨s1, s2⟩, s3⟩, s4⟩, s5⟩, s6⟩, s7⟩ := s
  have kp := fun P => all_of (u_keep P) F hF
  simp only [Bool.and_eq_true] at kp
  refine ⟨⟨fun P => map_of (u_at P) F hF, fun P => (kp P).2, fun vs hv => ?_, s1, s6, s2, s3, s4, s5⟩, fun P => (kp P).1⟩
  obtain ⟨v, w, x, y, rfl⟩ := pad4 hv (Nat.le_of_ble_eq_true s7)
  have := map_of u_bind F hF
  exact congrFun (congrFun (congrFun (congrFun this v) w) x) y
theorem U4_ok : Tab2Ok K U4 where
  T := { T4_ok with
    globs := fun p hp P => map_of (u_globs P) p hp
    blts := fun p hp => ⟨fun P => map_of (u_blts P) p hp, map_of u_boot p hp⟩
    fns := fun F hF => by
      rcases List.mem_append.mp (show F ∈ lawFns ++ fnsC from hF) with h | h
      · exact lawFns_ok F h
      · exact fnsC_ok F h }
  rows := fun p hp P => by
    obtain rfl := List.mem_singleton.mp hp
    exact ⟨_, u_rows P, valsFrom_ok u_simpleR⟩
  tups := fun p hp P => by
    obtain ⟨q, hq, rfl⟩ := List.mem_map.mp hp
    exact ⟨_, map_of (u_tups P) q hq, valsFrom_ok (all_of u_simple q hq)⟩
end Mine
/-! text L1 -/
open PySem PySem.W PyProof.Rows PySem.Spec PySem.Calls
set_option Elab.async false
set_option maxRecDepth 100000
set_option maxHeartbeats 0
namespace Mine
noncomputable abbrev LE := lawN pw K U4
noncomputable def setL (x : Str) (v : AV) (l : List (Str × Option AV)) : List (Str × Option AV) := (setLoc x v l).getD []
noncomputable def bFn : Fn := (fnAt 1528 lawFns).getD { a := 0, name := Str.ofString "", qual := Str.ofString "", params := default, body := [], cs := default, dV := .none, kV := .none, doc := .none, pm := .none, an := none, cd := .none, ct := .none, xs := [], rest := [] }
noncomputable def b0 (o : Int) : S := ⟨[], locs0 bFn.xs [.val (.ref 1521), .int o] bFn.rest, []⟩
noncomputable def b1 (o : Int) : S := ⟨[.dict [], .tup [.obj 0, .int o]], setL (Str.ofString "spots") (.obj 0) (setL (Str.ofString "at") (.int o) (b0 o).locs), []⟩
noncomputable def bld (o : Int) := (LE 14).c 1528 [.val (.ref 1521), .int o] [] [.s .next (b1 o)]
noncomputable def okB (o : Int) : Bool := match bld o with
  | some (.obj _, _, [], _) => true
  | _ => false
noncomputable def bObjs (o : Int) : List AO := match bld o with
  | some (_, l, _, _) => l
  | none => []
noncomputable def bIx (o : Int) : Nat × Nat × Nat × Nat := match bld o with
  | some (.obj k, l, _, _) => match nth l k with
    | some (.tup [.obj i, .obj j]) => (k, i, j, l.length)
    | _ => (0, 0, 0, 0)
  | _ => (0, 0, 0, 0)
noncomputable def bG (o : Int) : List Prop := match bld o with
  | some (_, _, _, g) => g
  | none => []
-- GEN
noncomputable def rawO (o : Int) : List Int := [162, 0, 160, 0, 32, ((((((((o + 2) + 2) + 3) + 2) + 1) + 2) + 3) : Int).fmod 256, ((((((((o + 2) + 2) + 3) + 2) + 1) + 2) + 3) : Int).fdiv 256, 169, 0, 42, 133, 16, 76, (((((((((((((((((((((((((((((((((((((((((((((o + 2) + 2) + 3) + 2) + 1) + 2) + 3) + 3) + 2) + 2) + 2) + 2) + 2) + 3) + 2) + 1) + 1) + 3) + 3) + 2) + 1) + 1) + 3) + 1) + 1) + 1) + 1) + 1) + 3) + 1) + 1) + 1) + 1) + 2) + 3) + 2) + 1) + 3) + 3) + 2) + 1) + 1) + 1) + 1) : Int).fmod 256, (((((((((((((((((((((((((((((((((((((((((((((o + 2) + 2) + 3) + 2) + 1) + 2) + 3) + 3) + 2) + 2) + 2) + 2) + 2) + 3) + 2) + 1) + 1) + 3) + 3) + 2) + 1) + 1) + 3) + 1) + 1) + 1) + 1) + 1) + 3) + 1) + 1) + 1) + 1) + 2) + 3) + 2) + 1) + 3) + 3) + 2) + 1) + 1) + 1) + 1) : Int).fdiv 256, 189, (1024 : Int).fmod 256, (1024 : Int).fdiv 256, 240, (((((((((((((((((((((((((((((((((((((((o + 2) + 2) + 3) + 2) + 1) + 2) + 3) + 3) + 2) + 2) + 2) + 2) + 2) + 3) + 2) + 1) + 1) + 3) + 3) + 2) + 1) + 1) + 3) + 1) + 1) + 1) + 1) + 1) + 3) + 1) + 1) + 1) + 1) + 2) + 3) + 2) + 1) + 3) - o - ((18 : Nat) : Int) - 2).fmod 256, 201, 42, 240, ((((((((((((((((((((((((o + 2) + 2) + 3) + 2) + 1) + 2) + 3) + 3) + 2) + 2) + 2) + 2) + 2) + 3) + 2) + 1) + 1) + 3) + 3) + 2) + 1) + 1) + 3) - o - ((22 : Nat) : Int) - 2).fmod 256, 201, 63, 240, (((((((((((((((((((o + 2) + 2) + 3) + 2) + 1) + 2) + 3) + 3) + 2) + 2) + 2) + 2) + 2) + 3) + 2) + 1) + 1) + 3) - o - ((26 : Nat) : Int) - 2).fmod 256, 217, (1056 : Int).fmod 256, (1056 : Int).fdiv 256, 208, (((((((((((((((((((((((((((((((((((((((((o + 2) + 2) + 3) + 2) + 1) + 2) + 3) + 3) + 2) + 2) + 2) + 2) + 2) + 3) + 2) + 1) + 1) + 3) + 3) + 2) + 1) + 1) + 3) + 1) + 1) + 1) + 1) + 1) + 3) + 1) + 1) + 1) + 1) + 2) + 3) + 2) + 1) + 3) + 3) + 2) - o - ((31 : Nat) : Int) - 2).fmod 256, 232, 200, 76, ((((((((o + 2) + 2) + 3) + 2) + 1) + 2) + 3) : Int).fmod 256, ((((((((o + 2) + 2) + 3) + 2) + 1) + 2) + 3) : Int).fdiv 256, 185, (1056 : Int).fmod 256, (1056 : Int).fdiv 256, 240, (((((((((((((((((((((((((((((((((((((((((o + 2) + 2) + 3) + 2) + 1) + 2) + 3) + 3) + 2) + 2) + 2) + 2) + 2) + 3) + 2) + 1) + 1) + 3) + 3) + 2) + 1) + 1) + 3) + 1) + 1) + 1) + 1) + 1) + 3) + 1) + 1) + 1) + 1) + 2) + 3) + 2) + 1) + 3) + 3) + 2) - o - ((41 : Nat) : Int) - 2).fmod 256, 232, 200, 76, ((((((((o + 2) + 2) + 3) + 2) + 1) + 2) + 3) : Int).fmod 256, ((((((((o + 2) + 2) + 3) + 2) + 1) + 2) + 3) : Int).fdiv 256, 138, 72, 152, 72, 232, 32, ((((((((o + 2) + 2) + 3) + 2) + 1) + 2) + 3) : Int).fmod 256, ((((((((o + 2) + 2) + 3) + 2) + 1) + 2) + 3) : Int).fdiv 256, 104, 168, 104, 170, 176, ((((((((((((((((((((((((((((((((((((((((((((o + 2) + 2) + 3) + 2) + 1) + 2) + 3) + 3) + 2) + 2) + 2) + 2) + 2) + 3) + 2) + 1) + 1) + 3) + 3) + 2) + 1) + 1) + 3) + 1) + 1) + 1) + 1) + 1) + 3) + 1) + 1) + 1) + 1) + 2) + 3) + 2) + 1) + 3) + 3) + 2) + 1) + 1) + 1) - o - ((60 : Nat) : Int) - 2).fmod 256, 185, (1056 : Int).fmod 256, (1056 : Int).fdiv 256, 240, (((((((((((((((((((((((((((((((((((((((((o + 2) + 2) + 3) + 2) + 1) + 2) + 3) + 3) + 2) + 2) + 2) + 2) + 2) + 3) + 2) + 1) + 1) + 3) + 3) + 2) + 1) + 1) + 3) + 1) + 1) + 1) + 1) + 1) + 3) + 1) + 1) + 1) + 1) + 2) + 3) + 2) + 1) + 3) + 3) + 2) - o - ((65 : Nat) : Int) - 2).fmod 256, 200, 76, ((((((((o + 2) + 2) + 3) + 2) + 1) + 2) + 3) : Int).fmod 256, ((((((((o + 2) + 2) + 3) + 2) + 1) + 2) + 3) : Int).fdiv 256, 185, (1056 : Int).fmod 256, (1056 : Int).fdiv 256, 240, (((((((((((((((((((((((((((((((((((((((((((o + 2) + 2) + 3) + 2) + 1) + 2) + 3) + 3) + 2) + 2) + 2) + 2) + 2) + 3) + 2) + 1) + 1) + 3) + 3) + 2) + 1) + 1) + 3) + 1) + 1) + 1) + 1) + 1) + 3) + 1) + 1) + 1) + 1) + 2) + 3) + 2) + 1) + 3) + 3) + 2) + 1) + 1) - o - ((74 : Nat) : Int) - 2).fmod 256, 24, 96, 56, 96]
noncomputable def rawD (o : Int) : List (Str × AV) := [(Str.ofString "main", .int o), (Str.ofString "match", .int (((((((o + 2) + 2) + 3) + 2) + 1) + 2) + 3)), (Str.ofString "any", .int ((((((((((((((((((o + 2) + 2) + 3) + 2) + 1) + 2) + 3) + 3) + 2) + 2) + 2) + 2) + 2) + 3) + 2) + 1) + 1) + 3)), (Str.ofString "star", .int (((((((((((((((((((((((o + 2) + 2) + 3) + 2) + 1) + 2) + 3) + 3) + 2) + 2) + 2) + 2) + 2) + 3) + 2) + 1) + 1) + 3) + 3) + 2) + 1) + 1) + 3)), (Str.ofString "end", .int ((((((((((((((((((((((((((((((((((((((o + 2) + 2) + 3) + 2) + 1) + 2) + 3) + 3) + 2) + 2) + 2) + 2) + 2) + 3) + 2) + 1) + 1) + 3) + 3) + 2) + 1) + 1) + 3) + 1) + 1) + 1) + 1) + 1) + 3) + 1) + 1) + 1) + 1) + 2) + 3) + 2) + 1) + 3)), (Str.ofString "fail", .int ((((((((((((((((((((((((((((((((((((((((o + 2) + 2) + 3) + 2) + 1) + 2) + 3) + 3) + 2) + 2) + 2) + 2) + 2) + 3) + 2) + 1) + 1) + 3) + 3) + 2) + 1) + 1) + 3) + 1) + 1) + 1) + 1) + 1) + 3) + 1) + 1) + 1) + 1) + 2) + 3) + 2) + 1) + 3) + 3) + 2)), (Str.ofString "yes", .int ((((((((((((((((((((((((((((((((((((((((((o + 2) + 2) + 3) + 2) + 1) + 2) + 3) + 3) + 2) + 2) + 2) + 2) + 2) + 3) + 2) + 1) + 1) + 3) + 3) + 2) + 1) + 1) + 3) + 1) + 1) + 1) + 1) + 1) + 3) + 1) + 1) + 1) + 1) + 2) + 3) + 2) + 1) + 3) + 3) + 2) + 1) + 1)), (Str.ofString "out", .int (((((((((((((((((((((((((((((((((((((((((((o + 2) + 2) + 3) + 2) + 1) + 2) + 3) + 3) + 2) + 2) + 2) + 2) + 2) + 3) + 2) + 1) + 1) + 3) + 3) + 2) + 1) + 1) + 3) + 1) + 1) + 1) + 1) + 1) + 3) + 1) + 1) + 1) + 1) + 2) + 3) + 2) + 1) + 3) + 3) + 2) + 1) + 1) + 1)), (Str.ofString "stop", .int ((((((((((((((((((((((((((((((((((((((((((((o + 2) + 2) + 3) + 2) + 1) + 2) + 3) + 3) + 2) + 2) + 2) + 2) + 2) + 3) + 2) + 1) + 1) + 3) + 3) + 2) + 1) + 1) + 3) + 1) + 1) + 1) + 1) + 1) + 3) + 1) + 1) + 1) + 1) + 2) + 3) + 2) + 1) + 3) + 3) + 2) + 1) + 1) + 1) + 1))]
noncomputable def rawG (o : Int) : List Prop := [0 + 2 ≤ 60000, 2 + 2 ≤ 60000, (256 : Int) ≠ 0, (256 : Int) ≠ 0, Builtin.divisionGoesByPylong (((((((o + 2) + 2) + 3) + 2) + 1) + 2) + 3) 256 = false, 4 + 3 ≤ 60000, 7 + 2 ≤ 60000, 9 ≤ 60000, 10 + 2 ≤ 60000, (256 : Int) ≠ 0, (256 : Int) ≠ 0, Builtin.divisionGoesByPylong ((((((((((((((((((((((((((((((((((((((((((((o + 2) + 2) + 3) + 2) + 1) + 2) + 3) + 3) + 2) + 2) + 2) + 2) + 2) + 3) + 2) + 1) + 1) + 3) + 3) + 2) + 1) + 1) + 3) + 1) + 1) + 1) + 1) + 1) + 3) + 1) + 1) + 1) + 1) + 2) + 3) + 2) + 1) + 3) + 3) + 2) + 1) + 1) + 1) + 1) 256 = false, 12 + 3 ≤ 60000, (256 : Int) ≠ 0, (256 : Int) ≠ 0, Builtin.divisionGoesByPylong (1024 : Int) 256 = false, 15 + 3 ≤ 60000, 18 < 2 ^ 62, (256 : Int) ≠ 0, 18 + 2 ≤ 60000, 20 + 2 ≤ 60000, 22 < 2 ^ 62, (256 : Int) ≠ 0, 22 + 2 ≤ 60000, 24 + 2 ≤ 60000, 26 < 2 ^ 62, (256 : Int) ≠ 0, 26 + 2 ≤ 60000, (256 : Int) ≠ 0, (256 : Int) ≠ 0, Builtin.divisionGoesByPylong (1056 : Int) 256 = false, 28 + 3 ≤ 60000, 31 < 2 ^ 62, (256 : Int) ≠ 0, 31 + 2 ≤ 60000, 33 ≤ 60000, 34 ≤ 60000, (256 : Int) ≠ 0, (256 : Int) ≠ 0, Builtin.divisionGoesByPylong (((((((o + 2) + 2) + 3) + 2) + 1) + 2) + 3) 256 = false, 35 + 3 ≤ 60000, (256 : Int) ≠ 0, (256 : Int) ≠ 0, Builtin.divisionGoesByPylong (1056 : Int) 256 = false, 38 + 3 ≤ 60000, 41 < 2 ^ 62, (256 : Int) ≠ 0, 41 + 2 ≤ 60000, 43 ≤ 60000, 44 ≤ 60000, (256 : Int) ≠ 0, (256 : Int) ≠ 0, Builtin.divisionGoesByPylong (((((((o + 2) + 2) + 3) + 2) + 1) + 2) + 3) 256 = false, 45 + 3 ≤ 60000, 48 ≤ 60000, 49 ≤ 60000, 50 ≤ 60000, 51 ≤ 60000, 52 ≤ 60000, (256 : Int) ≠ 0, (256 : Int) ≠ 0, Builtin.divisionGoesByPylong (((((((o + 2) + 2) + 3) + 2) + 1) + 2) + 3) 256 = false, 53 + 3 ≤ 60000, 56 ≤ 60000, 57 ≤ 60000, 58 ≤ 60000, 59 ≤ 60000, 60 < 2 ^ 62, (256 : Int) ≠ 0, 60 + 2 ≤ 60000, (256 : Int) ≠ 0, (256 : Int) ≠ 0, Builtin.divisionGoesByPylong (1056 : Int) 256 = false, 62 + 3 ≤ 60000, 65 < 2 ^ 62, (256 : Int) ≠ 0, 65 + 2 ≤ 60000, 67 ≤ 60000, (256 : Int) ≠ 0, (256 : Int) ≠ 0, Builtin.divisionGoesByPylong (((((((o + 2) + 2) + 3) + 2) + 1) + 2) + 3) 256 = false, 68 + 3 ≤ 60000, (256 : Int) ≠ 0, (256 : Int) ≠ 0, Builtin.divisionGoesByPylong (1056 : Int) 256 = false, 71 + 3 ≤ 60000, 74 < 2 ^ 62, (256 : Int) ≠ 0, 74 + 2 ≤ 60000, 76 ≤ 60000, 77 ≤ 60000, 78 ≤ 60000, 79 ≤ 60000]
noncomputable def bSt : Stmt := match bFn.body with
  | s :: _ => s
  | [] => .Pass default
theorem b_G (o : Int) : bG o = EvS pw K ⟨bFn.cs, true⟩ 13 bSt (b0 o) .next (b1 o) :: rawG o := by kernel_rfl
noncomputable def sel3 (o : Int) : List Nat := [(bIx o).2.1, (bIx o).2.2.1, (bIx o).1]
theorem b_ren (o : Int) : renOs (sel3 o) (bObjs o) (sel3 o) = some [.il (rawO o), .dict (rawD o), .tup [.obj 0, .obj 1]] := by kernel_rfl
noncomputable def bOut (o : Int) : AV := .obj (bIx o).1
theorem b_eq (o : Int) : bld o = some (bOut o, bObjs o, [], bG o) := by kernel_rfl
end Mine
/-! text L2 -/
open PySem PySem.W PyProof.Rows PySem.Spec PySem.Calls
set_option Elab.async false
set_option maxRecDepth 100000
set_option maxHeartbeats 0
namespace Mine
noncomputable def valE : Stmt → Expr
  | .Assign _ v _ => v
  | _ => .Constant .none 0 default
noncomputable def sAt (o : Int) : S := ⟨[.dict [], .tup [.obj 0, .int o]], (b0 o).locs, []⟩
theorem b_val (o : Int) : (LE 13).e ⟨bFn.cs, true⟩ (valE bSt) (b0 o) [] = some (.obj 1, sAt o, [], []) := by kernel_rfl
noncomputable def tgs : Stmt → List Expr
  | .Assign [.Tuple ts _ _] _ _ => ts
  | _ => []
noncomputable def tgk : Stmt → Nat
  | .Assign [.Tuple _ k _] _ _ => k
  | _ => 0
noncomputable def tgp : Stmt → Pos
  | .Assign [.Tuple _ _ p] _ _ => p
  | _ => default
noncomputable def stp_ : Stmt → Pos
  | .Assign _ _ p => p
  | _ => default
theorem b_st : bSt = .Assign [.Tuple (tgs bSt) (tgk bSt) (tgp bSt)] (valE bSt) (stp_ bSt) := by kernel_rfl
theorem b_sw : swappedStores [.Tuple (tgs bSt) (tgk bSt) (tgp bSt)] (valE bSt) (envOf bFn.cs) = pure (some [Str.ofString "spots", Str.ofString "at"]) := by kernel_rfl
theorem b_bind (o : Int) : bindNs ⟨bFn.cs, true⟩ [Str.ofString "at", Str.ofString "spots"] [.int o, .obj 0] (sAt o) = some (b1 o) := by kernel_rfl
theorem b_nc : notComp (valE bSt) = true := by kernel_rfl
theorem b_first (o : Int) : EvS pw K ⟨bFn.cs, true⟩ 13 bSt (b0 o) .next (b1 o) := by
  rw [b_st]
  exact .assignW2 (xs := [.obj 0, .int o]) (names := [Str.ofString "spots", Str.ofString "at"]) rfl ((lawN_ok U4_ok 13).e (b_val o) (fun _ h => nomatch h)) (.told rfl) (b_bind o) rfl b_nc b_sw
end Mine
/-! text L3 -/
open PySem PySem.W PyProof.Rows PySem.Spec PySem.Calls
set_option Elab.async false
set_option maxRecDepth 100000
set_option maxHeartbeats 0
namespace Mine
/-! what _law_build gives -/
theorem gcons {a : Prop} {l : List Prop} (h : a) (t : ∀ p ∈ l, p) : ∀ p ∈ a :: l, p := List.forall_mem_cons.mpr ⟨h, t⟩
theorem np256 (x : Int) : Builtin.divisionGoesByPylong x 256 = false := PyProof.noPylong_small (by decide)
theorem ne256 : (256 : Int) ≠ 0 := by decide
theorem rawG_ok (o : Int) : ∀ p ∈ rawG o, p := by
  unfold rawG
  repeat (first | exact g0 | refine gcons ne256 ?_ | refine gcons (np256 _) ?_ | refine gcons (by decide) ?_)
theorem b_nd (o : Int) : nodupB (sel3 o) = true := by kernel_rfl
theorem b_lt (o : Int) : ltB (bObjs o).length (sel3 o) = true := by kernel_rfl
theorem b_x (o : Int) : renV (sel3 o) (bOut o) = some (.obj 2) := by kernel_rfl
theorem build_raw (o : Int) : CallT pw K 14 1528 [.val (.ref 1521), .int o] [] (.obj 2) [.il (rawO o), .dict (rawD o), .tup [.obj 0, .obj 1]] :=
  (((lawN_ok U4_ok 14).c (b_eq o) (by rw [b_G]; exact gcons (b_first o) (rawG_ok o))).1).gc (nodupB_of (b_nd o)) (fun i h => absurd h (Nat.not_lt_zero i)) (ltB_of (b_lt o)) (b_ren o) (b_x o)
end Mine
/-! text L4 -/
open PySem PySem.W PyProof.Rows PySem.Spec PySem.Calls
set_option Elab.async false
set_option maxRecDepth 100000
set_option maxHeartbeats 0
namespace Mine
/-! the law: its statements and its states -/
noncomputable def nilFn : Fn := { a := 0, name := Str.ofString "", qual := Str.ofString "", params := default, body := [], cs := default, dV := .none, kV := .none, doc := .none, pm := .none, an := none, cd := .none, ct := .none, xs := [], rest := [] }
noncomputable def lawF : Fn := (fnOfRec 11 1533).getD nilFn
noncomputable def fL : Fx := ⟨lawF.cs, true⟩
noncomputable def stA (l : List Stmt) (i : Nat) : Stmt := match l.drop i with
  | s :: _ => s
  | [] => .Pass default
noncomputable def lst (i : Nat) : Stmt := stA lawF.body i
/-- the body of a loop, of an if -/
noncomputable def bodyOf : Stmt → List Stmt
  | .For _ _ b _ _ => b
  | .While _ b _ _ => b
  | .If _ b _ _ => b
  | _ => []
noncomputable def elseOf : Stmt → List Stmt
  | .If _ _ b _ => b
  | _ => []
noncomputable def iterOf : Stmt → Expr
  | .For _ i _ _ _ => i
  | _ => .Constant .none 0 default
noncomputable def targetOf : Stmt → Expr
  | .For t _ _ _ _ => t
  | _ => .Constant .none 0 default
noncomputable def testOf : Stmt → Expr
  | .While t _ _ _ => t
  | .If t _ _ _ => t
  | _ => .Constant .none 0 default
noncomputable def posOfS : Stmt → Pos
  | .For _ _ _ _ p => p
  | .While _ _ _ p => p
  | .Assign _ _ p => p
  | .If _ _ _ p => p
  | _ => default
noncomputable def lnames : List Str := [Str.ofString "script", Str.ofString "drawn", Str.ofString "origin", Str.ofString "pattern", Str.ofString "stars", Str.ofString "number", Str.ofString "code", Str.ofString "spots", Str.ofString "memory", Str.ofString "plain", Str.ofString "place", Str.ofString "answer", Str.ofString "x", Str.ofString "y", Str.ofString "back", Str.ofString "mpu", Str.ofString "rounds", Str.ofString "seen"]
noncomputable def lcs (l : List (Option AV)) : List (Str × Option AV) := lnames.zip l
noncomputable def cs4 : List (Str × Nat) := [(Str.ofString "rest", 0), (Str.ofString "reached", 1), (Str.ofString "text", 2), (Str.ofString "sign", 3)]
noncomputable def LS (st : Stmt) (σ : S) (o : Orc) : R Out := lawS pw K 40 U4 (LE 39) fL st σ o
noncomputable def LB (st : List Stmt) (σ : S) (o : Orc) : R Out := lawB pw K 40 U4 (LE 39) fL st σ o
noncomputable def LX (e : Expr) (σ : S) (o : Orc) : R AV := lawE pw K 40 U4 (LE 39) fL e σ o
noncomputable def LT (e : Expr) (σ : S) (o : Orc) : R Bool := lawT 40 (LE 39) fL e σ o
theorem LS_ok {st : Stmt} {σ σ' : S} {o : Orc} {out : Out} {g : List Prop} (h : LS st σ o = some (out, σ', [], g)) (hg : ∀ p ∈ g, p) : EvS pw K fL 40 st σ out σ' := lawS_ok U4_ok (lawN_ok U4_ok 39) h hg
theorem LB_ok {st : List Stmt} {σ σ' : S} {o : Orc} {out : Out} {g : List Prop} (h : LB st σ o = some (out, σ', [], g)) (hg : ∀ p ∈ g, p) : EvB pw K fL 40 st σ out σ' := lawB_ok U4_ok (lawN_ok U4_ok 39) h hg
theorem LX_ok {e : Expr} {σ σ' : S} {o : Orc} {x : AV} {g : List Prop} (h : LX e σ o = some (x, σ', [], g)) (hg : ∀ p ∈ g, p) : EvE pw K fL 40 e σ x σ' := lawE_ok U4_ok.T (lawN_ok U4_ok 39) h hg
theorem LT_ok {e : Expr} {σ σ' : S} {o : Orc} {x : Bool} {g : List Prop} (h : LT e σ o = some (x, σ', [], g)) (hg : ∀ p ∈ g, p) : EvT pw K fL 40 e σ x σ' := lawT_ok U4_ok.T (lawN_ok U4_ok 39) h hg
/-! the same, with the garbage let go -/
noncomputable def fin {α β : Type} (ren : α → Option β) (σ : S) (sel : List Nat) (r : R α) : Option (β × S × List Prop) := match r with
  | some (x, σ', [], g) => match selOk σ.objs.length σ'.objs.length sel with
    | true => match renS sel σ' with
      | some σ'' => match ren x with
        | some y => some (y, σ'', g)
        | none => none
      | none => none
    | false => none
  | _ => none
theorem fin_of {α β : Type} {ren : α → Option β} {σ σ'' : S} {sel : List Nat} {r : R α} {y : β} {g : List Prop} (h : fin ren σ sel r = some (y, σ'', g)) : ∃ x σ', r = some (x, σ', [], g) ∧ selOk σ.objs.length σ'.objs.length sel = true ∧ renS sel σ' = some σ'' ∧ ren x = some y := by
  cases r with
  | none => exact no_ h
  | some q =>
    obtain ⟨x, σ', o, g'⟩ := q
    cases o with
    | cons => exact no_ h
    | nil =>
      unfold fin at h
      dsimp only at h
      cases e1 : selOk σ.objs.length σ'.objs.length sel with
      | false => rw [e1] at h; exact no_ h
      | true =>
        rw [e1] at h
        dsimp only at h
        cases e2 : renS sel σ' with
        | none => rw [e2] at h; exact no_ h
        | some σ₂ =>
          rw [e2] at h
          dsimp only at h
          cases e3 : ren x with
          | none => rw [e3] at h; exact no_ h
          | some y' =>
            rw [e3] at h
            cases h
            exact ⟨x, σ', rfl, e1, e2, e3⟩
noncomputable def LSc (st : Stmt) (σ : S) (o : Orc) (sel : List Nat) := fin (renOut sel) σ sel (LS st σ o)
noncomputable def LBc (st : List Stmt) (σ : S) (o : Orc) (sel : List Nat) := fin (renOut sel) σ sel (LB st σ o)
noncomputable def LXc (e : Expr) (σ : S) (o : Orc) (sel : List Nat) := fin (renV sel) σ sel (LX e σ o)
noncomputable def LTc (e : Expr) (σ : S) (o : Orc) (sel : List Nat) := fin (fun b => some b) σ sel (LT e σ o)
theorem LSc_ok {st : Stmt} {σ σ' : S} {o : Orc} {sel : List Nat} {out : Out} {g : List Prop} (h : LSc st σ o sel = some (out, σ', g)) (hg : ∀ p ∈ g, p) : EvS pw K fL 40 st σ out σ' := by
  obtain ⟨x, σ₁, h1, h2, h3, h4⟩ := fin_of h
  exact (LS_ok h1 hg).gc h2 h3 h4
theorem LBc_ok {st : List Stmt} {σ σ' : S} {o : Orc} {sel : List Nat} {out : Out} {g : List Prop} (h : LBc st σ o sel = some (out, σ', g)) (hg : ∀ p ∈ g, p) : EvB pw K fL 40 st σ out σ' := by
  obtain ⟨x, σ₁, h1, h2, h3, h4⟩ := fin_of h
  exact (LB_ok h1 hg).gc h2 h3 h4
theorem LXc_ok {e : Expr} {σ σ' : S} {o : Orc} {sel : List Nat} {x : AV} {g : List Prop} (h : LXc e σ o sel = some (x, σ', g)) (hg : ∀ p ∈ g, p) : EvE pw K fL 40 e σ x σ' := by
  obtain ⟨x, σ₁, h1, h2, h3, h4⟩ := fin_of h
  exact (LX_ok h1 hg).gc h2 h3 h4
theorem LTc_ok {e : Expr} {σ σ' : S} {o : Orc} {sel : List Nat} {x : Bool} {g : List Prop} (h : LTc e σ o sel = some (x, σ', g)) (hg : ∀ p ∈ g, p) : EvT pw K fL 40 e σ x σ' := by
  obtain ⟨x, σ₁, h1, h2, h3, h4⟩ := fin_of h
  cases h4
  exact (LT_ok h1 hg).gc h2 h3
/-! at any level, in any frame -/
noncomputable def LXd (d : Nat) (f : Fx) (e : Expr) (σ : S) (o : Orc) : R AV := lawE pw K (d + 1) U4 (LE d) f e σ o
noncomputable def LTd (d : Nat) (f : Fx) (e : Expr) (σ : S) (o : Orc) : R Bool := lawT (d + 1) (LE d) f e σ o
theorem LXd_ok {d : Nat} {f : Fx} {e : Expr} {σ σ' : S} {o : Orc} {x : AV} {g : List Prop} (h : LXd d f e σ o = some (x, σ', [], g)) (hg : ∀ p ∈ g, p) : EvE pw K f (d + 1) e σ x σ' := lawE_ok U4_ok.T (lawN_ok U4_ok d) h hg
theorem LTd_ok {d : Nat} {f : Fx} {e : Expr} {σ σ' : S} {o : Orc} {x : Bool} {g : List Prop} (h : LTd d f e σ o = some (x, σ', [], g)) (hg : ∀ p ∈ g, p) : EvT pw K f (d + 1) e σ x σ' := lawT_ok U4_ok.T (lawN_ok U4_ok d) h hg
noncomputable def LXdc (d : Nat) (f : Fx) (e : Expr) (σ : S) (o : Orc) (sel : List Nat) := fin (renV sel) σ sel (LXd d f e σ o)
noncomputable def LTdc (d : Nat) (f : Fx) (e : Expr) (σ : S) (o : Orc) (sel : List Nat) := fin (fun b => some b) σ sel (LTd d f e σ o)
theorem LXdc_ok {d : Nat} {f : Fx} {e : Expr} {σ σ' : S} {o : Orc} {sel : List Nat} {x : AV} {g : List Prop} (h : LXdc d f e σ o sel = some (x, σ', g)) (hg : ∀ p ∈ g, p) : EvE pw K f (d + 1) e σ x σ' := by
  obtain ⟨x, σ₁, h1, h2, h3, h4⟩ := fin_of h
  exact (LXd_ok h1 hg).gc h2 h3 h4
theorem LTdc_ok {d : Nat} {f : Fx} {e : Expr} {σ σ' : S} {o : Orc} {sel : List Nat} {x : Bool} {g : List Prop} (h : LTdc d f e σ o sel = some (x, σ', g)) (hg : ∀ p ∈ g, p) : EvT pw K f (d + 1) e σ x σ' := by
  obtain ⟨x, σ₁, h1, h2, h3, h4⟩ := fin_of h
  cases h4
  exact (LTd_ok h1 hg).gc h2 h3
/-- what a turn of a comprehension sees -/
abbrev sT (ob : List AO) (x : Str) (k : Int) (cs : List (Str × Nat)) : S := ⟨ob, [(x, some (.int k))], cs⟩
theorem turn_plain {d : Nat} {p : CP} {ob : List AO} {cs : List (Str × Nat)} {k z : Int} {y : AV} {g : List Prop} (hi : p.ifs = []) (h : LXd d (gOf fL p.scope) p.elt (sT ob p.x k cs) [] = some (y, sT ob p.x k cs, [], g)) (hg : ∀ p ∈ g, p) (w : WkV y (.int z)) : Turn1 pw K (gOf fL p.scope) (d + 1) p.x cs p.ifs p.elt ob k (some z) :=
  ⟨sT ob p.x k cs, sT ob p.x k cs, y, by rw [hi]; exact .nil, LXd_ok h hg, w, rfl⟩
theorem turn_ask {d : Nat} {p : CP} {ob : List AO} {cs : List (Str × Nat)} {k z : Int} {y : AV} {o : Orc} {g : List Prop} (hi : p.ifs = []) (h : LXd d (gOf fL p.scope) p.elt (sT ob p.x k cs) o = some (y, sT ob p.x k cs, [], g)) (hg : ∀ p ∈ g, p) (w : WkV y (.int z)) : Turn1 pw K (gOf fL p.scope) (d + 1) p.x cs p.ifs p.elt ob k (some z) :=
  ⟨sT ob p.x k cs, sT ob p.x k cs, y, by rw [hi]; exact .nil, LXd_ok h hg, w, rfl⟩
theorem turn_yes {d : Nat} {p : CP} {ct : Expr} {ob : List AO} {cs : List (Str × Nat)} {k z : Int} {y : AV} {o : Orc} {g g' : List Prop} (hi : p.ifs = [ct]) (ht : LTd d (gOf fL p.scope) ct (sT ob p.x k cs) o = some (true, sT ob p.x k cs, [], g')) (hg' : ∀ p ∈ g', p) (h : LXd d (gOf fL p.scope) p.elt (sT ob p.x k cs) [] = some (y, sT ob p.x k cs, [], g)) (hg : ∀ p ∈ g, p) (w : WkV y (.int z)) : Turn1 pw K (gOf fL p.scope) (d + 1) p.x cs p.ifs p.elt ob k (some z) :=
  ⟨sT ob p.x k cs, sT ob p.x k cs, y, by rw [hi]; exact .one (LTd_ok ht hg'), LXd_ok h hg, w, rfl⟩
theorem turn_no {d : Nat} {p : CP} {ct : Expr} {ob : List AO} {cs : List (Str × Nat)} {k : Int} {o : Orc} {g' : List Prop} (hi : p.ifs = [ct]) (ht : LTd d (gOf fL p.scope) ct (sT ob p.x k cs) o = some (false, sT ob p.x k cs, [], g')) (hg' : ∀ p ∈ g', p) : Turn1 pw K (gOf fL p.scope) (d + 1) p.x cs p.ifs p.elt ob k none :=
  ⟨sT ob p.x k cs, by rw [hi]; exact .one (LTd_ok ht hg'), rfl⟩
theorem WkOs.refl : ∀ {l : List AO}, WkOs l l
  | [] => .nil
  | _ :: _ => .cons .refl .refl
/-- the numbers below n -/
noncomputable def upto (n : Nat) : List Nat := List.range n
end Mine
/-! text L5 -/
open PySem PySem.W PyProof.Rows PySem.Spec PySem.Calls
set_option Elab.async false
set_option maxRecDepth 100000
set_option maxHeartbeats 0
namespace Mine
/-- a state of the law: what the cells rest, reached, text, sign hold; the further objects; the locals from drawn on -/
@[irreducible] noncomputable def ln (ls : List (Option AV)) : List (Str × Option AV) := lcs (none :: ls ++ List.replicate (17 - ls.length) none)
noncomputable abbrev stL (c0 c1 c2 c3 : Option AV) (os : List AO) (ls : List (Option AV)) : S := ⟨.cell c0 :: .cell c1 :: .cell c2 :: .cell c3 :: os, ln ls, cs4⟩
inductive WkA : List (Option AV) → List (Option AV) → Prop
  | nil : WkA [] []
  | some {v w l l'} : WkV v w → WkA l l' → WkA (some v :: l) (some w :: l')
  | none {v l l'} : WkA l l' → WkA (v :: l) (none :: l')
theorem WkA.refl : ∀ {l : List (Option AV)}, WkA l l
  | [] => .nil
  | .some _ :: _ => .some .refl .refl
  | .none :: _ => .none .refl
theorem WkA.len {l l' : List (Option AV)} (h : WkA l l') : l.length = l'.length := by
  induction h with
  | nil => rfl
  | some _ _ ih => simp [ih]
  | none _ ih => simp [ih]
theorem WkA.app {l l' r : List (Option AV)} (h : WkA l l') : WkA (l ++ r) (l' ++ r) := by
  induction h with
  | nil => exact .refl
  | some q _ ih => exact .some q ih
  | none _ ih => exact .none ih
theorem WkA.zip {l l' : List (Option AV)} (h : WkA l l') : ∀ ns : List Str, WkLs (ns.zip l) (ns.zip l') := by
  induction h with
  | nil => intro ns; cases ns <;> exact .nil
  | some q _ ih =>
    intro ns
    cases ns with
    | nil => exact .nil
    | cons n ns => exact .some q (ih ns)
  | none _ ih =>
    intro ns
    cases ns with
    | nil => exact .nil
    | cons n ns => exact .none (ih ns)
theorem ln_wk {l l' : List (Option AV)} (h : WkA l l') : WkLs (ln l) (ln l') := by
  unfold ln lcs
  rw [h.len]
  exact WkA.zip (.none h.app) _
theorem wkCell {a b : AV} (h : WkV a b) : WkO (.cell (some a)) (.cell (some b)) := fun P as o ⟨u, e, r⟩ => ⟨u, e, by
  cases u with
  | none => exact r
  | some u => exact h as u r⟩
/-! origin -/
theorem s1 (D : List Int) : EvS pw K fL 40 (lst 1) (stL none none none none [.il D] [some (.obj 4)]) .next (stL none none none none [.il D] [some (.obj 4), some (.int (512 + D.sum.fmod 256))]) :=
  LS_ok (g := [(256 : Int) ≠ 0]) (o := []) (by kernel_rfl) (gcons (by decide) g0)
/-! pattern, stars -/
theorem wkNil : WkO (.list []) (.il []) := fun _ _ _ ⟨vs, n, e, r⟩ => ⟨vs, n, e, by
  have := r.length
  generalize vs.toList = l at this r
  cases r
  exact .nil⟩
noncomputable abbrev sA (D : List Int) (o : Int) : S := stL none none none none [.il D] [some (.obj 4), some (.int o)]
noncomputable abbrev sA1 (D : List Int) (o : Int) : S := stL none none none none [.il D, .list [], .tup [.obj 5, .cint 0]] [some (.obj 4), some (.int o)]
noncomputable abbrev sA2 (D : List Int) (o : Int) : S := stL none none none none [.il D, .list [], .tup [.obj 5, .cint 0]] [some (.obj 4), some (.int o), some (.obj 5), some (.cint 0)]
noncomputable abbrev sA3 (D : List Int) (o : Int) : S := stL none none none none [.il D, .list []] [some (.obj 4), some (.int o), some (.obj 5), some (.cint 0)]
noncomputable abbrev sA4 (D : List Int) (o : Int) : S := stL none none none none [.il D, .il []] [some (.obj 4), some (.int o), some (.obj 5), some (.int 0)]
theorem s2v (D : List Int) (o : Int) : LX (valE (lst 2)) (sA D o) [] = some (.obj 6, sA1 D o, [], []) := by kernel_rfl
theorem s2st : lst 2 = .Assign [.Tuple (tgs (lst 2)) (tgk (lst 2)) (tgp (lst 2))] (valE (lst 2)) (stp_ (lst 2)) := by kernel_rfl
theorem s2sw : swappedStores [.Tuple (tgs (lst 2)) (tgk (lst 2)) (tgp (lst 2))] (valE (lst 2)) (envOf fL.cs) = pure (some [Str.ofString "pattern", Str.ofString "stars"]) := by kernel_rfl
theorem s2nc : notComp (valE (lst 2)) = true := by kernel_rfl
theorem s2b (D : List Int) (o : Int) : bindNs fL [Str.ofString "stars", Str.ofString "pattern"] [.cint 0, .obj 5] (sA1 D o) = some (sA2 D o) := by kernel_rfl
theorem s2a (D : List Int) (o : Int) : EvS pw K fL 40 (lst 2) (sA D o) .next (sA2 D o) := by
  rw [s2st]
  exact .assignW2 (xs := [.obj 5, .cint 0]) (names := [Str.ofString "pattern", Str.ofString "stars"]) rfl (LX_ok (s2v D o) g0) (.told rfl) (s2b D o) rfl s2nc s2sw
theorem s2s (D : List Int) (o : Int) : selOk (sA D o).objs.length (sA2 D o).objs.length (upto 6) = true := by kernel_rfl
theorem s2r (D : List Int) (o : Int) : renS (upto 6) (sA2 D o) = some (sA3 D o) := by kernel_rfl
theorem s2 (D : List Int) (o : Int) : EvS pw K fL 40 (lst 2) (sA D o) .next (sA4 D o) :=
  ((s2a D o).gc (s2s D o) (s2r D o) rfl).wk (.cons .refl (.cons .refl (.cons .refl (.cons .refl (.cons .refl (.cons wkNil .nil)))))) (ln_wk (.some .refl (.some .refl (.some .refl (.some .intC .nil))))) rfl
/-! the signs of the pattern -/
noncomputable def sgn (k : Int) : Int := [97, 98, 63, 42, 42, 97].getD (k.fmod 6).toNat 0
noncomputable def nxt (q : List Int × Int) (k : Int) : List Int × Int := if sgn k = 42 then (if q.2 = 2 then (q.1 ++ [98], q.2) else (q.1 ++ [sgn k], q.2 + 1)) else (q.1 ++ [sgn k], q.2)
noncomputable abbrev sP (D ks : List Int) (o : Int) (u nv : Option AV) (P : List Int) (s : Int) : S := stL none none none u [.il D, .il P, .il ks] [some (.obj 4), some (.int o), some (.obj 5), some (.int s), nv]
theorem pt_a (D ks P : List Int) (o s k : Int) (u : Option AV) : LBc (bodyOf (lst 3)) (sP D ks o u (some (.int k)) P s) [.b false, .b false] (upto 7) = some (.next, sP D ks o (some (.int (sgn k))) (some (.int k)) (P ++ [sgn k]) (s + 0),
    [(6 : Int) ≠ 0, InB 6 (k.fmod 6), (sgn k == 42) = false, (sgn k == 42) = false, P.length ≤ 60000]) := by kernel_rfl
theorem pt_b (D ks P : List Int) (o s k : Int) (u : Option AV) : LBc (bodyOf (lst 3)) (sP D ks o u (some (.int k)) P s) [.b true, .b true] (upto 7) = some (.next, sP D ks o (some (.cint 98)) (some (.int k)) (P ++ [98]) (s + 0),
    [(6 : Int) ≠ 0, InB 6 (k.fmod 6), (sgn k == 42) = true, (s == 2) = true, P.length ≤ 60000]) := by kernel_rfl
theorem pt_c (D ks P : List Int) (o s k : Int) (u : Option AV) : LBc (bodyOf (lst 3)) (sP D ks o u (some (.int k)) P s) [.b true, .b false, .b true] (upto 7) = some (.next, sP D ks o (some (.int (sgn k))) (some (.int k)) (P ++ [sgn k]) (s + 1),
    [(6 : Int) ≠ 0, InB 6 (k.fmod 6), (sgn k == 42) = true, (s == 2) = false, (sgn k == 42) = true, P.length ≤ 60000]) := by kernel_rfl
theorem fmod_lt (k : Int) {n : Int} (h : 0 < n) : 0 ≤ k.fmod n ∧ k.fmod n < n := by
  rw [Int.fmod_eq_emod_of_nonneg _ (Int.le_of_lt h)]
  exact ⟨Int.emod_nonneg _ (by omega), Int.emod_lt_of_pos _ h⟩
theorem p_turn (D ks P : List Int) (o s k : Int) (u : Option AV) (hP : P.length ≤ 100) : ∃ v : Int, EvB pw K fL 40 (bodyOf (lst 3)) (sP D ks o u (some (.int k)) P s) .next (sP D ks o (some (.int v)) (some (.int k)) (nxt (P, s) k).1 (nxt (P, s) k).2) := by
  have h6 : (6 : Int) ≠ 0 := by decide
  have hb : InB 6 (k.fmod 6) := ⟨(fmod_lt k (by decide)).1, (fmod_lt k (by decide)).2, by have := (fmod_lt k (n := 6) (by decide)).2; omega⟩
  have hl : P.length ≤ 60000 := by omega
  by_cases h1 : sgn k = 42
  · have e1 : (sgn k == 42) = true := by simp [h1]
    by_cases h2 : s = 2
    · have e2 : (s == 2) = true := by simp [h2]
      refine ⟨98, ?_⟩
      rw [show nxt (P, s) k = (P ++ [98], s) by simp [nxt, h1, h2]]
      have h := LBc_ok (pt_b D ks P o s k u) (gcons h6 (gcons hb (gcons e1 (gcons e2 (gcons hl g0)))))
      rw [Int.add_zero] at h
      exact h.wk (.cons .refl (.cons .refl (.cons .refl (.cons (wkCell .intC) (.cons .refl (.cons .refl (.cons .refl .nil))))))) .refl rfl
    · have e2 : (s == 2) = false := by simp [h2]
      refine ⟨sgn k, ?_⟩
      rw [show nxt (P, s) k = (P ++ [sgn k], s + 1) by simp [nxt, h1, h2]]
      exact LBc_ok (pt_c D ks P o s k u) (gcons h6 (gcons hb (gcons e1 (gcons e2 (gcons e1 (gcons hl g0))))))
  · have e1 : (sgn k == 42) = false := by simp [h1]
    refine ⟨sgn k, ?_⟩
    rw [show nxt (P, s) k = (P ++ [sgn k], s) by simp [nxt, h1]]
    have h := LBc_ok (pt_a D ks P o s k u) (gcons h6 (gcons hb (gcons e1 (gcons e1 (gcons hl g0)))))
    rw [Int.add_zero] at h
    exact h
/-- a cell that holds nothing, or an int -/
noncomputable def Cu (u : Option AV) : Prop := u = none ∨ ∃ v : Int, u = some (.int v)
theorem nxt_len (q : List Int × Int) (k : Int) : (nxt q k).1.length = q.1.length + 1 := by
  unfold nxt
  split
  · split <;> simp
  · simp
theorem p_tgt (D ks P : List Int) (o s k : Int) (u nv : Option AV) : tgt U4 fL (targetOf (lst 3)) (.int k) (sP D ks o u nv P s) = some (sP D ks o u (some (.int k)) P s) := by kernel_rfl
theorem p_turns (D ks : List Int) (o : Int) : ∀ (l : List Int) (P : List Int) (s : Int) (u nv : Option AV), Cu u → P.length + l.length ≤ 100 → ∃ u' nv', Cu u' ∧ Turns pw K fL 40 (targetOf (lst 3)) (bodyOf (lst 3)) (fun τ => SrcL K τ (.obj 6) (ks.map .int)) (l.map .int) (sP D ks o u nv P s) .next (sP D ks o u' nv' (l.foldl nxt (P, s)).1 (l.foldl nxt (P, s)).2)
  | [], P, s, u, nv, hu, _ => ⟨u, nv, hu, .nil (.told rfl rfl)⟩
  | k :: l, P, s, u, nv, hu, h => by
    obtain ⟨v, hv⟩ := p_turn D ks P o s k u (by simp at h; omega)
    obtain ⟨u', nv', hu', ht⟩ := p_turns D ks o l (nxt (P, s) k).1 (nxt (P, s) k).2 (some (.int v)) (some (.int k)) (.inr ⟨v, rfl⟩) (by rw [nxt_len]; simp at h ⊢; omega)
    exact ⟨u', nv', hu', .next (.told rfl rfl) (tgt_ok U4_ok (p_tgt D ks P o s k u nv)) hv (.inl rfl) ht⟩
theorem s3st : lst 3 = .For (targetOf (lst 3)) (iterOf (lst 3)) (bodyOf (lst 3)) [] (posOfS (lst 3)) := by kernel_rfl
theorem s3pt : plainTarget (targetOf (lst 3)) = true := by kernel_rfl
theorem s3pi : plainIter (iterOf (lst 3)) = true := by kernel_rfl
noncomputable def pks (D : List Int) : List Int := (D.drop (2 : Int).toNat).take (2 + (D.getD (0 : Int).toNat 0).fmod 6 - 2).toNat
theorem s3i (D : List Int) (o : Int) : LX (iterOf (lst 3)) (sA4 D o) [] = some (.obj 6, sP D (pks D) o none none [] 0, [],
    [InB D.length 0, (6 : Int) ≠ 0, D.length ≤ 60000, 0 ≤ (2 : Int) ∧ 2 ≤ 2 + (D.getD (0 : Int).toNat 0).fmod 6 ∧ 2 + (D.getD (0 : Int).toNat 0).fmod 6 ≤ (D.length : Int)]) := by kernel_rfl
theorem pks_len (D : List Int) : (pks D).length ≤ 5 := by
  have := (fmod_lt (D.getD (0 : Int).toNat 0) (n := 6) (by decide)).2
  unfold pks
  rw [List.length_take]
  omega
/-- the pattern -/
noncomputable def pat (D : List Int) : List Int := ((pks D).foldl nxt ([], 0)).1
theorem s3s (D ks : List Int) (o : Int) (u : Option AV) (P : List Int) (s : Int) : selOk (sA4 D o).objs.length (sP D ks o u none P s).objs.length (upto 6) = true := by kernel_rfl
noncomputable abbrev sB (D P : List Int) (o s : Int) (u : Option AV) : S := stL none none none u [.il D, .il P] [some (.obj 4), some (.int o), some (.obj 5), some (.int s)]
theorem s3r (D ks : List Int) (o : Int) (u : Option AV) (hu : Cu u) (P : List Int) (s : Int) : renS (upto 6) (sP D ks o u none P s) = some (sB D P o s u) := by
  rcases hu with rfl | ⟨v, rfl⟩ <;> kernel_rfl
theorem wkLast {l : List (Option AV)} {v : Option AV} : WkA (l ++ [v]) (l ++ [none]) := by
  induction l with
  | nil => exact .none .nil
  | cons x l ih => cases x with
    | none => exact .none ih
    | some x => exact .some .refl ih
theorem s3 (D : List Int) (o : Int) (hD : D.length = 11) : ∃ u s, Cu u ∧ EvS pw K fL 40 (lst 3) (sA4 D o) .next (sB D (pat D) o s u) := by
  obtain ⟨u, nv, hu, ht⟩ := p_turns D (pks D) o (pks D) [] 0 none none (.inl rfl) (by have := pks_len D; simp; omega)
  have h6 := fmod_lt (D.getD (0 : Int).toNat 0) (n := 6) (by decide)
  have hi := LX_ok (s3i D o) (gcons ⟨by omega, by omega, by omega⟩ (gcons (by decide) (gcons (by omega) (gcons ⟨by omega, by omega, by omega⟩ g0))))
  have h : EvS pw K fL 40 (lst 3) (sA4 D o) .next (sP D (pks D) o u nv (pat D) ((pks D).foldl nxt ([], 0)).2) := by
    rw [s3st]
    exact .forL hi (.told rfl rfl) s3pt ht (plainIter_of s3pi)
  have h2 : EvS pw K fL 40 (lst 3) (sA4 D o) .next (sP D (pks D) o u none (pat D) ((pks D).foldl nxt ([], 0)).2) := h.wk .refl (ln_wk (wkLast (l := [_, _, _, _]))) rfl
  exact ⟨u, ((pks D).foldl nxt ([], 0)).2, hu, h2.gc (s3s D _ o u _ _) (s3r D _ o u hu _ _) rfl⟩
end Mine
/-! text L6 -/
open PySem PySem.W PyProof.Rows PySem.Spec PySem.Calls
set_option Elab.async false
set_option maxRecDepth 100000
set_option maxHeartbeats 0
namespace Mine
/-! text -/
noncomputable def p4 : CP := cpOf (valE (lst 4))
theorem p4e : valE (lst 4) = p4.e := by kernel_rfl
theorem p4ifs : p4.ifs = [] := by kernel_rfl
theorem p4it : plainIter p4.iter = true := by kernel_rfl
noncomputable def tks (D : List Int) : List Int := (D.drop (7 : Int).toNat).take (7 + (D.getD (1 : Int).toNat 0).fmod 5 - 7).toNat
noncomputable def letter (k : Int) : Int := 97 + k.fmod 2
/-- the text -/
noncomputable def txt (D : List Int) : List Int := (tks D).filterMap fun k => some (letter k)
noncomputable abbrev sB1 (D P : List Int) (o s : Int) (u : Option AV) : S := stL none none none u [.il D, .il P, .il (tks D)] [some (.obj 4), some (.int o), some (.obj 5), some (.int s)]
noncomputable abbrev sB2 (D P : List Int) (o s : Int) (u : Option AV) : S := stL none none none u [.il D, .il P, .il (tks D), .il (txt D)] [some (.obj 4), some (.int o), some (.obj 5), some (.int s)]
noncomputable abbrev sC (D P T : List Int) (o s : Int) (u : Option AV) : S := stL none none (some (.obj 6)) u [.il D, .il P, .il T] [some (.obj 4), some (.int o), some (.obj 5), some (.int s)]
theorem s4i (D P : List Int) (o s : Int) (u : Option AV) : LXd 38 fL p4.iter (sB D P o s u) [] = some (.obj 6, sB1 D P o s u, [], [InB D.length 1, (5 : Int) ≠ 0, D.length ≤ 60000, 0 ≤ (7 : Int) ∧ 7 ≤ 7 + (D.getD (1 : Int).toNat 0).fmod 5 ∧ 7 + (D.getD (1 : Int).toNat 0).fmod 5 ≤ (D.length : Int)]) := by kernel_rfl
theorem s4t (ob : List AO) (k : Int) : LXd 38 (gOf fL p4.scope) p4.elt (sT ob p4.x k []) [] = some (.int (letter k), sT ob p4.x k [], [], [(2 : Int) ≠ 0]) := by kernel_rfl
theorem s4c (D P : List Int) (o s : Int) (u : Option AV) : compOkB fL p4.scope p4.x [] (sB1 D P o s u).cells = true := by kernel_rfl
theorem tks_len (D : List Int) : (tks D).length ≤ 4 := by
  have := (fmod_lt (D.getD (1 : Int).toNat 0) (n := 5) (by decide)).2
  unfold tks
  rw [List.length_take]
  omega
theorem s4e (D P : List Int) (o s : Int) (u : Option AV) (hD : D.length = 11) : EvE pw K fL 39 (valE (lst 4)) (sB D P o s u) (.obj 7) (sB2 D P o s u) := by
  rw [p4e]
  have h5 := fmod_lt (D.getD (1 : Int).toNat 0) (n := 5) (by decide)
  exact .compLI (i := 6) (l := tks D) (cs := []) (LXd_ok (s4i D P o s u) (gcons ⟨by omega, by omega, by omega⟩ (gcons (by decide) (gcons (by omega) (gcons ⟨by omega, by omega, by omega⟩ g0))))) rfl (s4c D P o s u) rfl (by have := tks_len D; omega)
    (fun k _ => turn_plain p4ifs (s4t _ k) (gcons (by decide) g0) .refl) p4it
theorem s4k (D P : List Int) (o s : Int) (u : Option AV) (hu : Cu u) : LSc (lst 4) (sB D P o s u) [.e (.obj 7) (sB2 D P o s u)] [0, 1, 2, 3, 4, 5, 7] = some (.next, sC D P (txt D) o s u, [EvE pw K fL 39 (valE (lst 4)) (sB D P o s u) (.obj 7) (sB2 D P o s u)]) := by
  rcases hu with rfl | ⟨v, rfl⟩ <;> kernel_rfl
theorem s4 (D P : List Int) (o s : Int) (u : Option AV) (hu : Cu u) (hD : D.length = 11) : EvS pw K fL 40 (lst 4) (sB D P o s u) .next (sC D P (txt D) o s u) := LSc_ok (s4k D P o s u hu) (gcons (s4e D P o s u hD) g0)
end Mine
/-! text L7 -/
open PySem PySem.W PyProof.Rows PySem.Spec PySem.Calls
set_option Elab.async false
set_option maxRecDepth 100000
set_option maxHeartbeats 0
namespace Mine
/-! code, spots -/
noncomputable def callF : Expr → Expr
  | .Call f _ _ _ => f
  | e => e
noncomputable def callAs : Expr → List Expr
  | .Call _ as _ _ => as
  | _ => []
noncomputable def callP : Expr → Pos
  | .Call _ _ _ p => p
  | _ => default
theorem s5st : lst 5 = .Assign [.Tuple (tgs (lst 5)) (tgk (lst 5)) (tgp (lst 5))] (.Call (callF (valE (lst 5))) (callAs (valE (lst 5))) [] (callP (valE (lst 5)))) (stp_ (lst 5)) := by kernel_rfl
theorem s5sw : swappedStores [.Tuple (tgs (lst 5)) (tgk (lst 5)) (tgp (lst 5))] (.Call (callF (valE (lst 5))) (callAs (valE (lst 5))) [] (callP (valE (lst 5)))) (envOf fL.cs) = pure none := by kernel_rfl
theorem s5pf : plainFun (callF (valE (lst 5))) = true := by kernel_rfl
theorem s5f (σ : S) : LX (callF (valE (lst 5))) σ [] = some (.val (.ref 1528), σ, [], []) := by kernel_rfl
theorem s5a (D P T : List Int) (o s : Int) (u : Option AV) : stArgs (LE 39) fL (callAs (valE (lst 5))) (sC D P T o s u) [] = some ([.val (.ref 1521), .int o], sC D P T o s u, [], []) := by kernel_rfl
theorem s5keep (P : Params) : keepIn (K P) (.ref 1528) = true := by kernel_rfl
noncomputable abbrev sC1 (D P T : List Int) (o s : Int) (u : Option AV) : S := stL none none (some (.obj 6)) u [.il D, .il P, .il T, .il (rawO o), .dict (rawD o), .tup [.obj 7, .obj 8]] [some (.obj 4), some (.int o), some (.obj 5), some (.int s)]
noncomputable abbrev sC2 (D P T : List Int) (o s : Int) (u : Option AV) : S := stL none none (some (.obj 6)) u [.il D, .il P, .il T, .il (rawO o), .dict (rawD o), .tup [.obj 7, .obj 8]] [some (.obj 4), some (.int o), some (.obj 5), some (.int s), none, some (.obj 7), some (.obj 8)]
noncomputable abbrev sD (D P T : List Int) (o s : Int) (u : Option AV) : S := stL none none (some (.obj 6)) u [.il D, .il P, .il T, .il (rawO o), .dict (rawD o)] [some (.obj 4), some (.int o), some (.obj 5), some (.int s), none, some (.obj 7), some (.obj 8)]
/-- the objects after a framed call -/
noncomputable def frameO (sel : List Nat) (objs objsS' : List AO) : List AO := over sel (objsS'.map (embO (back sel objs.length))) 0 objs ++ (objsS'.drop sel.length).map (embO (back sel objs.length))
theorem CallT.frm {d : Nat} {fa : Addr} {args argsB : List AV} {objs objsS objsS' objs' : List AO} {x x' : AV} {sel : List Nat} (h : CallT pw K d fa args objsS x objsS') (hs : selOk 0 objs.length sel = true) (hren : renOs sel objs sel = some objsS) (hargs : renVs sel argsB = some args) (hlen : Nat.ble sel.length objsS'.length = true)
    (hx : embV (back sel objs.length) x = x') (ho : frameO sel objs objsS' = objs') : CallT pw K d fa argsB objs x' objs' := by
  obtain ⟨h1, _, h3⟩ := selOk_of hs
  have := CallT.frame h h1 h3 hren hargs (Nat.le_of_ble_eq_true hlen)
  rw [hx] at this
  unfold frameO at ho
  rw [ho] at this
  exact this
theorem s5o (D P T : List Int) (o s : Int) (u : Option AV) : frameO [] (sC D P T o s u).objs [.il (rawO o), .dict (rawD o), .tup [.obj 0, .obj 1]] = (sC1 D P T o s u).objs := by kernel_rfl
theorem s5call (D P T : List Int) (o s : Int) (u : Option AV) : CallT pw K 39 1528 [.val (.ref 1521), .int o] (sC D P T o s u).objs (.obj 9) (sC1 D P T o s u).objs :=
  ((build_raw o).more (d' := 39) (by decide)).frm (sel := []) rfl rfl rfl rfl rfl (s5o D P T o s u)
theorem s5v (D P T : List Int) (o s : Int) (u : Option AV) : EvE pw K fL 40 (.Call (callF (valE (lst 5))) (callAs (valE (lst 5))) [] (callP (valE (lst 5)))) (sC D P T o s u) (.obj 9) (sC1 D P T o s u) := by
  obtain ⟨a1, a2⟩ := stArgs_ok (lawN_ok U4_ok 39) (s5a D P T o s u) g0
  exact .callFn rfl (LX_ok (s5f _) g0) a2 (call_eq s5pf) a1 s5keep (s5call D P T o s u)
theorem s5g (D P T : List Int) (o s : Int) (u : Option AV) : tgt U4 fL (.Tuple (tgs (lst 5)) (tgk (lst 5)) (tgp (lst 5))) (.obj 9) (sC1 D P T o s u) = some (sC2 D P T o s u) := by kernel_rfl
theorem s5x (D P T : List Int) (o s : Int) (u : Option AV) : EvS pw K fL 40 (lst 5) (sC D P T o s u) .next (sC2 D P T o s u) := by
  rw [s5st]
  exact .assignT2 U4_ok (s5v D P T o s u) (s5g D P T o s u) rfl s5sw
theorem s5s (D P T : List Int) (o s : Int) (u : Option AV) : selOk (sC D P T o s u).objs.length (sC2 D P T o s u).objs.length (upto 9) = true := by kernel_rfl
theorem s5r (D P T : List Int) (o s : Int) (u : Option AV) (hu : Cu u) : renS (upto 9) (sC2 D P T o s u) = some (sD D P T o s u) := by
  rcases hu with rfl | ⟨v, rfl⟩ <;> kernel_rfl
theorem s5 (D P T : List Int) (o s : Int) (u : Option AV) (hu : Cu u) : EvS pw K fL 40 (lst 5) (sC D P T o s u) .next (sD D P T o s u) := (s5x D P T o s u).gc (s5s D P T o s u) (s5r D P T o s u hu) rfl
end Mine
/-! text L8 -/
open PySem PySem.W PyProof.Rows PySem.Spec PySem.Calls
set_option Elab.async false
set_option maxRecDepth 100000
set_option maxHeartbeats 0
namespace Mine
/-! memory -/
noncomputable def binL : Expr → Expr
  | .BinOp l _ _ _ => l
  | e => e
noncomputable def p6 : CP := cpOf (binL (binL (binL (binL (valE (lst 6))))))
theorem p6e : binL (binL (binL (binL (valE (lst 6))))) = p6.e := by kernel_rfl
theorem p6ifs : p6.ifs = [] := by kernel_rfl
theorem p6it : plainIter p6.iter = true := by kernel_rfl
noncomputable abbrev ls8 (o s : Int) (l : List (Option AV)) : List (Option AV) := some (.obj 4) :: some (.int o) :: some (.obj 5) :: some (.int s) :: none :: some (.obj 7) :: some (.obj 8) :: l
noncomputable abbrev sD1 (D P T : List Int) (o s : Int) (u : Option AV) : S := stL none none (some (.obj 6)) u [.il D, .il P, .il T, .il (rawO o), .dict (rawD o), .rng 0 64 1] (ls8 o s [])
theorem s6i (D P T : List Int) (o s : Int) (u : Option AV) : LXd 34 fL p6.iter (sD D P T o s u) [] = some (.obj 9, sD1 D P T o s u, [], []) := by kernel_rfl
noncomputable def bg (c : Int) : Int := (37 * c + 11).fmod 256
noncomputable def pre : List Int := (rints 0 1 64).filterMap fun c => some (bg c)
noncomputable abbrev sD2 (D P T : List Int) (o s : Int) (u : Option AV) : S := stL none none (some (.obj 6)) u [.il D, .il P, .il T, .il (rawO o), .dict (rawD o), .rng 0 64 1, .il pre] (ls8 o s [])
theorem s6t (ob : List AO) (k : Int) : LXd 34 (gOf fL p6.scope) p6.elt (sT ob p6.x k []) [] = some (.int (bg k), sT ob p6.x k [], [], [IntMulOk 37 k, (256 : Int) ≠ 0]) := by kernel_rfl
theorem s6c (D P T : List Int) (o s : Int) (u : Option AV) : compOkB fL p6.scope p6.x [] (sD1 D P T o s u).cells = true := by kernel_rfl
theorem mulOk37 (b : Int) : IntMulOk 37 b := IntMulOk.of_left (by decide +kernel)
theorem s6e (D P T : List Int) (o s : Int) (u : Option AV) : EvE pw K fL 35 (binL (binL (binL (binL (valE (lst 6)))))) (sD D P T o s u) (.obj 10) (sD2 D P T o s u) := by
  rw [p6e]
  exact .compRI (i := 9) (n := 64) (F := fun c => some (bg c)) (cs := []) (LXd_ok (s6i D P T o s u) g0) rfl (by decide +kernel) (by decide +kernel) (s6c D P T o s u) rfl (by decide)
    (fun k _ => turn_plain p6ifs (s6t _ k) (gcons (mulOk37 k) (gcons (by decide) g0)) .refl) p6it
noncomputable def memA (o : Int) (cd : List Int) : List Int := mulL pre 8 ++ mulL [0] (o - 512) ++ cd ++ mulL [0] (1024 - o - (cd.length : Int))
noncomputable abbrev sE (D P T M : List Int) (o s : Int) (u : Option AV) : S := stL none none (some (.obj 6)) u [.il D, .il P, .il T, .il (rawO o), .dict (rawD o), .il M] (ls8 o s [some (.obj 9)])
noncomputable def g6 (o : Int) (cd : List Int) : List Prop := [(8 : Int) < 60000, (0 : Int) ≤ 8, pre.length ≤ 64, o - 512 < 60000, 0 ≤ o - 512, [(0 : Int)].length ≤ 64, (mulL pre 8).length + (mulL [0] (o - 512)).length ≤ 60000, (mulL pre 8 ++ mulL [0] (o - 512)).length + cd.length ≤ 60000, cd.length < 2 ^ 62,
  1024 - o - (cd.length : Int) < 60000, 0 ≤ 1024 - o - (cd.length : Int), [(0 : Int)].length ≤ 64, (mulL pre 8 ++ mulL [0] (o - 512) ++ cd).length + (mulL [0] (1024 - o - (cd.length : Int))).length ≤ 60000]
theorem s6k (D P T : List Int) (o s : Int) (u : Option AV) (hu : Cu u) : LSc (lst 6) (sD D P T o s u) [.e (.obj 10) (sD2 D P T o s u)] (upto 9 ++ [18]) = some (.next, sE D P T (memA o (rawO o)) o s u, EvE pw K fL 35 (binL (binL (binL (binL (valE (lst 6)))))) (sD D P T o s u) (.obj 10) (sD2 D P T o s u) :: g6 o (rawO o)) := by
  rcases hu with rfl | ⟨v, rfl⟩ <;> kernel_rfl
theorem pre_len : pre.length = 64 := by decide +kernel
theorem mulL_len (l : List Int) (k : Int) : (mulL l k).length = k.toNat * l.length := by
  unfold mulL
  simp
theorem raw_len (o : Int) : (rawO o).length = 80 := rfl
theorem g6_ok (o : Int) (h1 : 512 ≤ o) (h2 : o ≤ 767) : ∀ p ∈ g6 o (rawO o), p := by
  have e1 : ((rawO o).length : Int) = 80 := rfl
  unfold g6
  refine gcons (by decide) (gcons (by decide) (gcons (by rw [pre_len]; decide) (gcons (by omega) (gcons (by omega) (gcons (by decide) (gcons ?_ (gcons ?_ (gcons (by rw [raw_len]; decide) (gcons (by omega) (gcons (by omega) (gcons (by decide) (gcons ?_ g0))))))))))))
  · rw [mulL_len, mulL_len, pre_len]; simp; omega
  · rw [List.length_append, mulL_len, mulL_len, pre_len, raw_len]; simp; omega
  · rw [List.length_append, List.length_append, mulL_len, mulL_len, mulL_len, pre_len, e1, raw_len]; simp; omega
theorem s6 (D P T : List Int) (o s : Int) (u : Option AV) (hu : Cu u) (h1 : 512 ≤ o) (h2 : o ≤ 767) : EvS pw K fL 40 (lst 6) (sD D P T o s u) .next (sE D P T (memA o (rawO o)) o s u) :=
  LSc_ok (s6k D P T o s u hu) (gcons (s6e D P T o s u) (g6_ok o h1 h2))
/-! the pattern and the text behind it -/
noncomputable def memB (M P T : List Int) : List Int := M ++ P ++ mulL [0] (32 - (P.length : Int)) ++ T ++ mulL [0] (32 - (T.length : Int))
noncomputable def g7 (M P T : List Int) : List Prop := [M.length + P.length ≤ 60000, P.length < 2 ^ 62, 32 - (P.length : Int) < 60000, 0 ≤ 32 - (P.length : Int), [(0 : Int)].length ≤ 64, (M ++ P).length + (mulL [0] (32 - (P.length : Int))).length ≤ 60000, (M ++ P ++ mulL [0] (32 - (P.length : Int))).length + T.length ≤ 60000,
  T.length < 2 ^ 62, 32 - (T.length : Int) < 60000, 0 ≤ 32 - (T.length : Int), [(0 : Int)].length ≤ 64, (M ++ P ++ mulL [0] (32 - (P.length : Int)) ++ T).length + (mulL [0] (32 - (T.length : Int))).length ≤ 60000]
noncomputable abbrev sF (D P T M N : List Int) (o s : Int) (u : Option AV) : S := stL none none (some (.obj 6)) u [.il D, .il P, .il T, .il (rawO o), .dict (rawD o), .il M, .il N] (ls8 o s [some (.obj 10)])
theorem s7k (D P T M : List Int) (o s : Int) (u : Option AV) (hu : Cu u) : LSc (lst 7) (sE D P T M o s u) [] (upto 10 ++ [17]) = some (.next, sF D P T M (memB M P T) o s u, g7 M P T) := by
  rcases hu with rfl | ⟨v, rfl⟩ <;> kernel_rfl
theorem g7_ok (M P T : List Int) (hM : M.length ≤ 2000) (hP : P.length ≤ 5) (hT : T.length ≤ 4) : ∀ p ∈ g7 M P T, p := by
  unfold g7
  refine gcons (by omega) (gcons (by omega) (gcons (by omega) (gcons (by omega) (gcons (by decide) (gcons ?_ (gcons ?_ (gcons (by omega) (gcons (by omega) (gcons (by omega) (gcons (by decide) (gcons ?_ g0)))))))))))
  · rw [List.length_append, mulL_len]; simp; omega
  · rw [List.length_append, List.length_append, mulL_len]; simp; omega
  · rw [List.length_append, List.length_append, List.length_append, mulL_len, mulL_len]; simp; omega
theorem s7 (D P T M : List Int) (o s : Int) (u : Option AV) (hu : Cu u) (hM : M.length ≤ 2000) (hP : P.length ≤ 5) (hT : T.length ≤ 4) : EvS pw K fL 40 (lst 7) (sE D P T M o s u) .next (sF D P T M (memB M P T) o s u) :=
  LSc_ok (s7k D P T M o s u hu) (g7_ok M P T hM hP hT)
/-! plain -/
noncomputable abbrev sG (D P T M N : List Int) (o s : Int) (u : Option AV) : S := stL none none (some (.obj 6)) u [.il D, .il P, .il T, .il (rawO o), .dict (rawD o), .il M, .il N, .il N] (ls8 o s [some (.obj 10), some (.obj 11)])
theorem s8k (D P T M N : List Int) (o s : Int) (u : Option AV) (hu : Cu u) : LSc (lst 8) (sF D P T M N o s u) [] (upto 12) = some (.next, sG D P T M N o s u, [N.length ≤ 60000]) := by
  rcases hu with rfl | ⟨v, rfl⟩ <;> kernel_rfl
theorem s8 (D P T M N : List Int) (o s : Int) (u : Option AV) (hu : Cu u) (hN : N.length ≤ 60000) : EvS pw K fL 40 (lst 8) (sF D P T M N o s u) .next (sG D P T M N o s u) :=
  LSc_ok (s8k D P T M N o s u hu) (gcons hN g0)
end Mine
/-! text L9 -/
open PySem PySem.W PyProof.Rows PySem.Spec PySem.Calls
set_option Elab.async false
set_option maxRecDepth 100000
set_option maxHeartbeats 0
namespace Mine
/-! reached -/
/-- the objects 4 to 11, which stay -/
noncomputable abbrev bas (D P T M N : List Int) (o : Int) (l : List AO) : List AO := .il D :: .il P :: .il T :: .il (rawO o) :: .dict (rawD o) :: .il M :: .il N :: .il N :: l
noncomputable abbrev lsA (o s : Int) (l : List (Option AV)) : List (Option AV) := ls8 o s (some (.obj 10) :: some (.obj 11) :: l)
noncomputable abbrev sH (D P T M N : List Int) (o s : Int) (u : Option AV) (R : List Int) : S := stL none (some (.obj 12)) (some (.obj 6)) u (bas D P T M N o [.il R]) (lsA o s [])
theorem wkC {l : List Int} : WkO (.list (l.map .cint)) (.il l) := fun _ _ _ ⟨vs, n, e, r⟩ => ⟨vs, n, e, by
  have key : ∀ {as : List Addr} {l : List Int} {us : List Value}, RVs as (l.map .cint) us → IntsAre us l := by
    intro as l
    induction l with
    | nil => intro us r; cases r; exact .nil
    | cons x l ih =>
      intro us r
      cases r with
      | cons r rs => obtain ⟨t, rfl⟩ := r; exact .cons x t (ih rs)
  exact key r⟩
theorem s9k (D P T M N : List Int) (o s : Int) (u : Option AV) (hu : Cu u) : LSc (lst 9) (sG D P T M N o s u) [] (upto 13) = some (.next, stL none (some (.obj 12)) (some (.obj 6)) u (bas D P T M N o [.list [.cint 0]]) (lsA o s []), []) := by
  rcases hu with rfl | ⟨v, rfl⟩ <;> kernel_rfl
theorem wk_bas {D P T M N : List Int} {o : Int} {l l' : List AO} (h : WkOs l l') : WkOs (bas D P T M N o l) (bas D P T M N o l') :=
  .cons .refl (.cons .refl (.cons .refl (.cons .refl (.cons .refl (.cons .refl (.cons .refl (.cons .refl h)))))))
theorem wk_cells {c0 c1 c2 c3 : AO} {l l' : List AO} (h : WkOs l l') : WkOs (c0 :: c1 :: c2 :: c3 :: l) (c0 :: c1 :: c2 :: c3 :: l') := .cons .refl (.cons .refl (.cons .refl (.cons .refl h)))
theorem s9 (D P T M N : List Int) (o s : Int) (u : Option AV) (hu : Cu u) : EvS pw K fL 40 (lst 9) (sG D P T M N o s u) .next (sH D P T M N o s u [0]) :=
  (LSc_ok (s9k D P T M N o s u hu) g0).wk (wk_cells (wk_bas (.cons (wkC (l := [0])) .nil))) .refl rfl
/-! the turns -/
noncomputable abbrev sJ (D P T M N : List Int) (o s : Int) (u : Option AV) (R : List Int) : S := stL none (some (.obj 13)) (some (.obj 6)) u (bas D P T M N o [.junk, .il R]) (lsA o s [])
noncomputable def ifB : List Stmt → Stmt
  | s :: _ => s
  | [] => .Pass default
noncomputable def lst10 : Stmt := ifB (bodyOf (lst 10))
noncomputable def pA : CP := cpOf (valE (ifB (bodyOf lst10)))
noncomputable def pB : CP := cpOf (valE (ifB (elseOf lst10)))
theorem pAe : valE (ifB (bodyOf lst10)) = pA.e := by kernel_rfl
theorem pBe : valE (ifB (elseOf lst10)) = pB.e := by kernel_rfl
noncomputable def cs3 : List (Str × Nat) := [(Str.ofString "reached", 1)]
noncomputable def csB3 : List (Str × Nat) := [(Str.ofString "text", 2), (Str.ofString "sign", 3)]
theorem pAc (σ : S) (h : σ.cells = cs4) : compOkB fL pA.scope pA.x cs3 σ.cells = true := by rw [h]; kernel_rfl
theorem pBc (σ : S) (h : σ.cells = cs4) : compOkB fL pB.scope pB.x csB3 σ.cells = true := by rw [h]; kernel_rfl
end Mine
/-! text L10 -/
open PySem PySem.W PyProof.Rows PySem.Spec PySem.Calls
set_option Elab.async false
set_option maxRecDepth 100000
set_option maxHeartbeats 0
namespace Mine
/-! the turns of the second loop -/
noncomputable def ctA : Expr := match pA.ifs with
  | t :: _ => t
  | [] => pA.elt
noncomputable def ctB : Expr := match pB.ifs with
  | t :: _ => t
  | [] => pB.elt
theorem pAifs : pA.ifs = [ctA] := by kernel_rfl
theorem pBifs : pB.ifs = [ctB] := by kernel_rfl
theorem pAit : plainIter pA.iter = true := by kernel_rfl
theorem pBit : plainIter pB.iter = true := by kernel_rfl
noncomputable def stepS (T R : List Int) : List Int := (rints 0 1 (T.length + 1)).filterMap fun k => if R ≠ [] ∧ R.getD (0 : Int).toNat 0 ≤ k then some k else none
noncomputable def stepC (T : List Int) (sg : Int) (R : List Int) : List Int := R.filterMap fun k => if k < (T.length : Int) ∧ (sg = 63 ∨ T.getD k.toNat 0 = sg) then some (k + 1) else none
noncomputable def stepR (T : List Int) (R : List Int) (sg : Int) : List Int := if sg = 42 then stepS T R else stepC T sg R
theorem neNil {R : List Int} (h : R ≠ []) : (!decide (R = [])) = true := by simp [h]
theorem eqNil {R : List Int} (h : R = []) : (!decide (R = [])) = false := by simp [h]
theorem rsize (n : Nat) : Builtin.Range.rangeSize 0 ((n : Int) + 1) 1 = ((n + 1 : Nat) : Int) := by
  unfold Builtin.Range.rangeSize
  simp
theorem rsmall {n : Nat} (h : n ≤ 100000) : Builtin.Range.small 0 ((n : Int) + 1) 1 = true := by
  exact small_one (by omega) (by omega) (by omega) (by omega)
theorem mem_rints {k : Int} {n : Nat} (h : k ∈ rints 0 1 n) : 0 ≤ k ∧ k < n := by
  unfold rints at h
  obtain ⟨j, hj, rfl⟩ := List.mem_map.mp h
  rw [List.mem_range'] at hj
  omega
/-! form H -/
theorem aHi (D P T M N R : List Int) (o s sg : Int) : LXd 37 fL pA.iter (sH D P T M N o s (some (.int sg)) R) [] = some (.obj 13, (stL none (some (.obj 12)) (some (.obj 6)) (some (.int sg)) (bas D P T M N o [.il R, .rng 0 ((T.length : Int) + 1) 1]) (lsA o s [])), [], [T.length < 2 ^ 62]) := by kernel_rfl
noncomputable abbrev oAH (D P T M N R : List Int) (o sg : Int) : List AO := .cell none :: .cell (some (.obj 12)) :: .cell (some (.obj 6)) :: .cell (some (.int sg)) :: bas D P T M N o [.il R, .rng 0 ((T.length : Int) + 1) 1]
theorem aHt (D P T M N R : List Int) (o sg k : Int) : LTdc 37 (gOf fL pA.scope) ctA (sT (oAH D P T M N R o sg) pA.x k cs3) [.b true, .b true] (upto 14) = some (true, sT (oAH D P T M N R o sg) pA.x k cs3, [(!decide (R = [])) = true, InB R.length 0, decide (R.getD (0 : Int).toNat 0 ≤ k) = true]) := by kernel_rfl
theorem aHf (D P T M N R : List Int) (o sg k : Int) : LTdc 37 (gOf fL pA.scope) ctA (sT (oAH D P T M N R o sg) pA.x k cs3) [.b true, .b false] (upto 14) = some (false, sT (oAH D P T M N R o sg) pA.x k cs3, [(!decide (R = [])) = true, InB R.length 0, decide (R.getD (0 : Int).toNat 0 ≤ k) = false]) := by kernel_rfl
theorem aHg (D P T M N R : List Int) (o sg k : Int) : LTdc 37 (gOf fL pA.scope) ctA (sT (oAH D P T M N R o sg) pA.x k cs3) [.b false] (upto 14) = some (false, sT (oAH D P T M N R o sg) pA.x k cs3, [(!decide (R = [])) = false]) := by kernel_rfl
theorem aHe (D P T M N R : List Int) (o sg k : Int) : LXd 37 (gOf fL pA.scope) pA.elt (sT (oAH D P T M N R o sg) pA.x k cs3) [] = some (.int k, sT (oAH D P T M N R o sg) pA.x k cs3, [], []) := by kernel_rfl
theorem aH (D P T M N R : List Int) (o s sg : Int) (hT : T.length ≤ 4) (hR : R.length ≤ 100) : EvE pw K fL 38 (valE (ifB (bodyOf lst10))) (sH D P T M N o s (some (.int sg)) R) (.obj 14) ((stL none (some (.obj 12)) (some (.obj 6)) (some (.int sg)) (bas D P T M N o [.il R, .rng 0 ((T.length : Int) + 1) 1, .il (stepS T R)]) (lsA o s []))) := by
  rw [pAe]
  refine .compRI (i := 13) (n := T.length + 1) (cs := cs3) (LXd_ok (aHi D P T M N R o s sg) (gcons (by omega) g0)) rfl (rsmall (by omega)) (rsize _) (pAc _ rfl) rfl (by omega) (fun k _ => ?_) pAit
  by_cases h : R = []
  · rw [if_neg (by simp [h])]
    exact ⟨sT (oAH D P T M N R o sg) pA.x k cs3, by rw [pAifs]; exact .one (LTdc_ok (aHg D P T M N R o sg k) (gcons (eqNil h) g0)), rfl⟩
  · have hb : InB R.length 0 := ⟨by omega, by have := List.length_pos_iff.mpr h; omega, by omega⟩
    by_cases h2 : R.getD (0 : Int).toNat 0 ≤ k
    · rw [if_pos ⟨h, h2⟩]
      exact ⟨_, _, _, by rw [pAifs]; exact .one (LTdc_ok (aHt D P T M N R o sg k) (gcons (neNil h) (gcons hb (gcons (decide_eq_true h2) g0)))), LXd_ok (aHe D P T M N R o sg k) g0, .refl, rfl⟩
    · rw [if_neg fun q => h2 q.2]
      exact ⟨sT (oAH D P T M N R o sg) pA.x k cs3, by rw [pAifs]; exact .one (LTdc_ok (aHf D P T M N R o sg k) (gcons (neNil h) (gcons hb (gcons (decide_eq_false h2) g0)))), rfl⟩
theorem bHi (D P T M N R : List Int) (o s sg : Int) : LXd 37 fL pB.iter (sH D P T M N o s (some (.int sg)) R) [] = some (.obj 12, sH D P T M N o s (some (.int sg)) R, [], []) := by kernel_rfl
noncomputable abbrev oBH (D P T M N R : List Int) (o sg : Int) : List AO := .cell none :: .cell (some (.obj 12)) :: .cell (some (.obj 6)) :: .cell (some (.int sg)) :: bas D P T M N o [.il R]
theorem bHt1 (D P T M N R : List Int) (o sg k : Int) : LTd 37 (gOf fL pB.scope) ctB (sT (oBH D P T M N R o sg) pB.x k csB3) [.b true, .b true] = some (true, sT (oBH D P T M N R o sg) pB.x k csB3, [], [T.length < 2 ^ 62, decide (k < (T.length : Int)) = true, (sg == 63) = true]) := by kernel_rfl
theorem bHt2 (D P T M N R : List Int) (o sg k : Int) : LTd 37 (gOf fL pB.scope) ctB (sT (oBH D P T M N R o sg) pB.x k csB3) [.b true, .b false, .b true] = some (true, sT (oBH D P T M N R o sg) pB.x k csB3, [], [T.length < 2 ^ 62, decide (k < (T.length : Int)) = true, (sg == 63) = false, InB T.length k, (T.getD k.toNat 0 == sg) = true]) := by kernel_rfl
theorem bHf1 (D P T M N R : List Int) (o sg k : Int) : LTd 37 (gOf fL pB.scope) ctB (sT (oBH D P T M N R o sg) pB.x k csB3) [.b false] = some (false, sT (oBH D P T M N R o sg) pB.x k csB3, [], [T.length < 2 ^ 62, decide (k < (T.length : Int)) = false]) := by kernel_rfl
theorem bHf2 (D P T M N R : List Int) (o sg k : Int) : LTd 37 (gOf fL pB.scope) ctB (sT (oBH D P T M N R o sg) pB.x k csB3) [.b true, .b false, .b false] = some (false, sT (oBH D P T M N R o sg) pB.x k csB3, [], [T.length < 2 ^ 62, decide (k < (T.length : Int)) = true, (sg == 63) = false, InB T.length k, (T.getD k.toNat 0 == sg) = false]) := by kernel_rfl
theorem bHe (D P T M N R : List Int) (o sg k : Int) : LXd 37 (gOf fL pB.scope) pB.elt (sT (oBH D P T M N R o sg) pB.x k csB3) [] = some (.int (k + 1), sT (oBH D P T M N R o sg) pB.x k csB3, [], []) := by kernel_rfl
theorem bH (D P T M N R : List Int) (o s sg : Int) (hT : T.length ≤ 4) (hR : R.length ≤ 100) (h0 : ∀ k ∈ R, 0 ≤ k) : EvE pw K fL 38 (valE (ifB (elseOf lst10))) (sH D P T M N o s (some (.int sg)) R) (.obj 13) ((stL none (some (.obj 12)) (some (.obj 6)) (some (.int sg)) (bas D P T M N o [.il R, .il (stepC T sg R)]) (lsA o s []))) := by
  rw [pBe]
  refine .compLI (i := 12) (l := R) (cs := csB3) (LXd_ok (bHi D P T M N R o s sg) g0) rfl (pBc _ rfl) rfl (by omega) (fun k hk => ?_) pBit
  have hl : T.length < 2 ^ 62 := by omega
  by_cases h : k < (T.length : Int)
  · have hb : InB T.length k := ⟨h0 k hk, h, by omega⟩
    by_cases h1 : sg = 63
    · rw [if_pos ⟨h, .inl h1⟩]
      exact turn_yes pBifs (bHt1 D P T M N R o sg k) (gcons hl (gcons (decide_eq_true h) (gcons (beq_iff_eq.mpr h1) g0))) (bHe D P T M N R o sg k) g0 .refl
    · have e1 : (sg == 63) = false := beq_eq_false_iff_ne.mpr h1
      by_cases h2 : T.getD k.toNat 0 = sg
      · rw [if_pos ⟨h, .inr h2⟩]
        exact turn_yes pBifs (bHt2 D P T M N R o sg k) (gcons hl (gcons (decide_eq_true h) (gcons e1 (gcons hb (gcons (beq_iff_eq.mpr h2) g0))))) (bHe D P T M N R o sg k) g0 .refl
      · rw [if_neg (by rintro ⟨_, q | q⟩; exact h1 q; exact h2 q)]
        exact turn_no pBifs (bHf2 D P T M N R o sg k) (gcons hl (gcons (decide_eq_true h) (gcons e1 (gcons hb (gcons (beq_eq_false_iff_ne.mpr h2) g0)))))
  · rw [if_neg fun q => h q.1]
    exact turn_no pBifs (bHf1 D P T M N R o sg k) (gcons hl (gcons (decide_eq_false h) g0))
theorem kHa (D P T M N R : List Int) (o s sg : Int) : LBc (bodyOf (lst 10)) (sH D P T M N o s (some (.int sg)) R) [.b true, .e (.obj 14) ((stL none (some (.obj 12)) (some (.obj 6)) (some (.int sg)) (bas D P T M N o [.il R, .rng 0 ((T.length : Int) + 1) 1, .il (stepS T R)]) (lsA o s [])))] (upto 13 ++ [14]) = some (.next, (stL none (some (.obj 13)) (some (.obj 6)) (some (.int sg)) (bas D P T M N o [.il R, .il (stepS T R)]) (lsA o s [])),
    [(sg == 42) = true, EvE pw K fL 38 (valE (ifB (bodyOf lst10))) (sH D P T M N o s (some (.int sg)) R) (.obj 14) ((stL none (some (.obj 12)) (some (.obj 6)) (some (.int sg)) (bas D P T M N o [.il R, .rng 0 ((T.length : Int) + 1) 1, .il (stepS T R)]) (lsA o s [])))]) := by kernel_rfl
theorem kHb (D P T M N R : List Int) (o s sg : Int) : LBc (bodyOf (lst 10)) (sH D P T M N o s (some (.int sg)) R) [.b false, .e (.obj 13) ((stL none (some (.obj 12)) (some (.obj 6)) (some (.int sg)) (bas D P T M N o [.il R, .il (stepC T sg R)]) (lsA o s [])))] (upto 14) = some (.next, (stL none (some (.obj 13)) (some (.obj 6)) (some (.int sg)) (bas D P T M N o [.il R, .il (stepC T sg R)]) (lsA o s [])),
    [(sg == 42) = false, EvE pw K fL 38 (valE (ifB (elseOf lst10))) (sH D P T M N o s (some (.int sg)) R) (.obj 13) ((stL none (some (.obj 12)) (some (.obj 6)) (some (.int sg)) (bas D P T M N o [.il R, .il (stepC T sg R)]) (lsA o s [])))]) := by kernel_rfl
theorem kH (D P T M N R : List Int) (o s sg : Int) (hT : T.length ≤ 4) (hR : R.length ≤ 100) (h0 : ∀ k ∈ R, 0 ≤ k) : EvB pw K fL 40 (bodyOf (lst 10)) (sH D P T M N o s (some (.int sg)) R) .next ((stL none (some (.obj 13)) (some (.obj 6)) (some (.int sg)) (bas D P T M N o [.il R, .il (stepR T R sg)]) (lsA o s []))) := by
  unfold stepR
  by_cases h : sg = 42
  · rw [if_pos h]
    exact LBc_ok (kHa D P T M N R o s sg) (gcons (beq_iff_eq.mpr h) (gcons (aH D P T M N R o s sg hT hR) g0))
  · rw [if_neg h]
    exact LBc_ok (kHb D P T M N R o s sg) (gcons (beq_eq_false_iff_ne.mpr h) (gcons (bH D P T M N R o s sg hT hR h0) g0))
/-! form J -/
theorem aJi (D P T M N R : List Int) (o s sg : Int) : LXd 37 fL pA.iter (sJ D P T M N o s (some (.int sg)) R) [] = some (.obj 14, (stL none (some (.obj 13)) (some (.obj 6)) (some (.int sg)) (bas D P T M N o [.junk, .il R, .rng 0 ((T.length : Int) + 1) 1]) (lsA o s [])), [], [T.length < 2 ^ 62]) := by kernel_rfl
noncomputable abbrev oAJ (D P T M N R : List Int) (o sg : Int) : List AO := .cell none :: .cell (some (.obj 13)) :: .cell (some (.obj 6)) :: .cell (some (.int sg)) :: bas D P T M N o [.junk, .il R, .rng 0 ((T.length : Int) + 1) 1]
theorem aJt (D P T M N R : List Int) (o sg k : Int) : LTdc 37 (gOf fL pA.scope) ctA (sT (oAJ D P T M N R o sg) pA.x k cs3) [.b true, .b true] (upto 15) = some (true, sT (oAJ D P T M N R o sg) pA.x k cs3, [(!decide (R = [])) = true, InB R.length 0, decide (R.getD (0 : Int).toNat 0 ≤ k) = true]) := by kernel_rfl
theorem aJf (D P T M N R : List Int) (o sg k : Int) : LTdc 37 (gOf fL pA.scope) ctA (sT (oAJ D P T M N R o sg) pA.x k cs3) [.b true, .b false] (upto 15) = some (false, sT (oAJ D P T M N R o sg) pA.x k cs3, [(!decide (R = [])) = true, InB R.length 0, decide (R.getD (0 : Int).toNat 0 ≤ k) = false]) := by kernel_rfl
theorem aJg (D P T M N R : List Int) (o sg k : Int) : LTdc 37 (gOf fL pA.scope) ctA (sT (oAJ D P T M N R o sg) pA.x k cs3) [.b false] (upto 15) = some (false, sT (oAJ D P T M N R o sg) pA.x k cs3, [(!decide (R = [])) = false]) := by kernel_rfl
theorem aJe (D P T M N R : List Int) (o sg k : Int) : LXd 37 (gOf fL pA.scope) pA.elt (sT (oAJ D P T M N R o sg) pA.x k cs3) [] = some (.int k, sT (oAJ D P T M N R o sg) pA.x k cs3, [], []) := by kernel_rfl
theorem aJ (D P T M N R : List Int) (o s sg : Int) (hT : T.length ≤ 4) (hR : R.length ≤ 100) : EvE pw K fL 38 (valE (ifB (bodyOf lst10))) (sJ D P T M N o s (some (.int sg)) R) (.obj 15) ((stL none (some (.obj 13)) (some (.obj 6)) (some (.int sg)) (bas D P T M N o [.junk, .il R, .rng 0 ((T.length : Int) + 1) 1, .il (stepS T R)]) (lsA o s []))) := by
  rw [pAe]
  refine .compRI (i := 14) (n := T.length + 1) (cs := cs3) (LXd_ok (aJi D P T M N R o s sg) (gcons (by omega) g0)) rfl (rsmall (by omega)) (rsize _) (pAc _ rfl) rfl (by omega) (fun k _ => ?_) pAit
  by_cases h : R = []
  · rw [if_neg (by simp [h])]
    exact ⟨sT (oAJ D P T M N R o sg) pA.x k cs3, by rw [pAifs]; exact .one (LTdc_ok (aJg D P T M N R o sg k) (gcons (eqNil h) g0)), rfl⟩
  · have hb : InB R.length 0 := ⟨by omega, by have := List.length_pos_iff.mpr h; omega, by omega⟩
    by_cases h2 : R.getD (0 : Int).toNat 0 ≤ k
    · rw [if_pos ⟨h, h2⟩]
      exact ⟨_, _, _, by rw [pAifs]; exact .one (LTdc_ok (aJt D P T M N R o sg k) (gcons (neNil h) (gcons hb (gcons (decide_eq_true h2) g0)))), LXd_ok (aJe D P T M N R o sg k) g0, .refl, rfl⟩
    · rw [if_neg fun q => h2 q.2]
      exact ⟨sT (oAJ D P T M N R o sg) pA.x k cs3, by rw [pAifs]; exact .one (LTdc_ok (aJf D P T M N R o sg k) (gcons (neNil h) (gcons hb (gcons (decide_eq_false h2) g0)))), rfl⟩
theorem bJi (D P T M N R : List Int) (o s sg : Int) : LXd 37 fL pB.iter (sJ D P T M N o s (some (.int sg)) R) [] = some (.obj 13, sJ D P T M N o s (some (.int sg)) R, [], []) := by kernel_rfl
noncomputable abbrev oBJ (D P T M N R : List Int) (o sg : Int) : List AO := .cell none :: .cell (some (.obj 13)) :: .cell (some (.obj 6)) :: .cell (some (.int sg)) :: bas D P T M N o [.junk, .il R]
theorem bJt1 (D P T M N R : List Int) (o sg k : Int) : LTd 37 (gOf fL pB.scope) ctB (sT (oBJ D P T M N R o sg) pB.x k csB3) [.b true, .b true] = some (true, sT (oBJ D P T M N R o sg) pB.x k csB3, [], [T.length < 2 ^ 62, decide (k < (T.length : Int)) = true, (sg == 63) = true]) := by kernel_rfl
theorem bJt2 (D P T M N R : List Int) (o sg k : Int) : LTd 37 (gOf fL pB.scope) ctB (sT (oBJ D P T M N R o sg) pB.x k csB3) [.b true, .b false, .b true] = some (true, sT (oBJ D P T M N R o sg) pB.x k csB3, [], [T.length < 2 ^ 62, decide (k < (T.length : Int)) = true, (sg == 63) = false, InB T.length k, (T.getD k.toNat 0 == sg) = true]) := by kernel_rfl
theorem bJf1 (D P T M N R : List Int) (o sg k : Int) : LTd 37 (gOf fL pB.scope) ctB (sT (oBJ D P T M N R o sg) pB.x k csB3) [.b false] = some (false, sT (oBJ D P T M N R o sg) pB.x k csB3, [], [T.length < 2 ^ 62, decide (k < (T.length : Int)) = false]) := by kernel_rfl
theorem bJf2 (D P T M N R : List Int) (o sg k : Int) : LTd 37 (gOf fL pB.scope) ctB (sT (oBJ D P T M N R o sg) pB.x k csB3) [.b true, .b false, .b false] = some (false, sT (oBJ D P T M N R o sg) pB.x k csB3, [], [T.length < 2 ^ 62, decide (k < (T.length : Int)) = true, (sg == 63) = false, InB T.length k, (T.getD k.toNat 0 == sg) = false]) := by kernel_rfl
theorem bJe (D P T M N R : List Int) (o sg k : Int) : LXd 37 (gOf fL pB.scope) pB.elt (sT (oBJ D P T M N R o sg) pB.x k csB3) [] = some (.int (k + 1), sT (oBJ D P T M N R o sg) pB.x k csB3, [], []) := by kernel_rfl
theorem bJ (D P T M N R : List Int) (o s sg : Int) (hT : T.length ≤ 4) (hR : R.length ≤ 100) (h0 : ∀ k ∈ R, 0 ≤ k) : EvE pw K fL 38 (valE (ifB (elseOf lst10))) (sJ D P T M N o s (some (.int sg)) R) (.obj 14) ((stL none (some (.obj 13)) (some (.obj 6)) (some (.int sg)) (bas D P T M N o [.junk, .il R, .il (stepC T sg R)]) (lsA o s []))) := by
  rw [pBe]
  refine .compLI (i := 13) (l := R) (cs := csB3) (LXd_ok (bJi D P T M N R o s sg) g0) rfl (pBc _ rfl) rfl (by omega) (fun k hk => ?_) pBit
  have hl : T.length < 2 ^ 62 := by omega
  by_cases h : k < (T.length : Int)
  · have hb : InB T.length k := ⟨h0 k hk, h, by omega⟩
    by_cases h1 : sg = 63
    · rw [if_pos ⟨h, .inl h1⟩]
      exact turn_yes pBifs (bJt1 D P T M N R o sg k) (gcons hl (gcons (decide_eq_true h) (gcons (beq_iff_eq.mpr h1) g0))) (bJe D P T M N R o sg k) g0 .refl
    · have e1 : (sg == 63) = false := beq_eq_false_iff_ne.mpr h1
      by_cases h2 : T.getD k.toNat 0 = sg
      · rw [if_pos ⟨h, .inr h2⟩]
        exact turn_yes pBifs (bJt2 D P T M N R o sg k) (gcons hl (gcons (decide_eq_true h) (gcons e1 (gcons hb (gcons (beq_iff_eq.mpr h2) g0))))) (bJe D P T M N R o sg k) g0 .refl
      · rw [if_neg (by rintro ⟨_, q | q⟩; exact h1 q; exact h2 q)]
        exact turn_no pBifs (bJf2 D P T M N R o sg k) (gcons hl (gcons (decide_eq_true h) (gcons e1 (gcons hb (gcons (beq_eq_false_iff_ne.mpr h2) g0)))))
  · rw [if_neg fun q => h q.1]
    exact turn_no pBifs (bJf1 D P T M N R o sg k) (gcons hl (gcons (decide_eq_false h) g0))
theorem kJa (D P T M N R : List Int) (o s sg : Int) : LBc (bodyOf (lst 10)) (sJ D P T M N o s (some (.int sg)) R) [.b true, .e (.obj 15) ((stL none (some (.obj 13)) (some (.obj 6)) (some (.int sg)) (bas D P T M N o [.junk, .il R, .rng 0 ((T.length : Int) + 1) 1, .il (stepS T R)]) (lsA o s [])))] (upto 14 ++ [15]) = some (.next, (stL none (some (.obj 14)) (some (.obj 6)) (some (.int sg)) (bas D P T M N o [.junk, .il R, .il (stepS T R)]) (lsA o s [])),
    [(sg == 42) = true, EvE pw K fL 38 (valE (ifB (bodyOf lst10))) (sJ D P T M N o s (some (.int sg)) R) (.obj 15) ((stL none (some (.obj 13)) (some (.obj 6)) (some (.int sg)) (bas D P T M N o [.junk, .il R, .rng 0 ((T.length : Int) + 1) 1, .il (stepS T R)]) (lsA o s [])))]) := by kernel_rfl
theorem kJb (D P T M N R : List Int) (o s sg : Int) : LBc (bodyOf (lst 10)) (sJ D P T M N o s (some (.int sg)) R) [.b false, .e (.obj 14) ((stL none (some (.obj 13)) (some (.obj 6)) (some (.int sg)) (bas D P T M N o [.junk, .il R, .il (stepC T sg R)]) (lsA o s [])))] (upto 15) = some (.next, (stL none (some (.obj 14)) (some (.obj 6)) (some (.int sg)) (bas D P T M N o [.junk, .il R, .il (stepC T sg R)]) (lsA o s [])),
    [(sg == 42) = false, EvE pw K fL 38 (valE (ifB (elseOf lst10))) (sJ D P T M N o s (some (.int sg)) R) (.obj 14) ((stL none (some (.obj 13)) (some (.obj 6)) (some (.int sg)) (bas D P T M N o [.junk, .il R, .il (stepC T sg R)]) (lsA o s [])))]) := by kernel_rfl
theorem kJ (D P T M N R : List Int) (o s sg : Int) (hT : T.length ≤ 4) (hR : R.length ≤ 100) (h0 : ∀ k ∈ R, 0 ≤ k) : EvB pw K fL 40 (bodyOf (lst 10)) (sJ D P T M N o s (some (.int sg)) R) .next ((stL none (some (.obj 14)) (some (.obj 6)) (some (.int sg)) (bas D P T M N o [.junk, .il R, .il (stepR T R sg)]) (lsA o s []))) := by
  unfold stepR
  by_cases h : sg = 42
  · rw [if_pos h]
    exact LBc_ok (kJa D P T M N R o s sg) (gcons (beq_iff_eq.mpr h) (gcons (aJ D P T M N R o s sg hT hR) g0))
  · rw [if_neg h]
    exact LBc_ok (kJb D P T M N R o s sg) (gcons (beq_eq_false_iff_ne.mpr h) (gcons (bJ D P T M N R o s sg hT hR h0) g0))
end Mine
/-! text L11 -/
open PySem PySem.W PyProof.Rows PySem.Spec PySem.Calls
set_option Elab.async false
set_option maxRecDepth 100000
set_option maxHeartbeats 0
namespace Mine
/-! for sign in pattern -/
theorem t10H (D P T M N R : List Int) (o s sg : Int) (u : Option AV) : tgt U4 fL (targetOf (lst 10)) (.int sg) (sH D P T M N o s u R) = some (sH D P T M N o s (some (.int sg)) R) := by kernel_rfl
theorem t10J (D P T M N R : List Int) (o s sg : Int) (u : Option AV) : tgt U4 fL (targetOf (lst 10)) (.int sg) (sJ D P T M N o s u R) = some (sJ D P T M N o s (some (.int sg)) R) := by kernel_rfl
noncomputable abbrev sJ2 (D P T M N : List Int) (o s : Int) (u : Option AV) (R R' : List Int) : S := stL none (some (.obj 14)) (some (.obj 6)) u (bas D P T M N o [.junk, .il R, .il R']) (lsA o s [])
theorem g10s (D P T M N R R' : List Int) (o s sg : Int) : selOk 13 (sJ2 D P T M N o s (some (.int sg)) R R').objs.length (upto 13 ++ [14]) = true := by kernel_rfl
theorem g10r (D P T M N R R' : List Int) (o s sg : Int) : renS (upto 13 ++ [14]) (sJ2 D P T M N o s (some (.int sg)) R R') = some (sJ D P T M N o s (some (.int sg)) R') := by kernel_rfl
theorem wkJunk {a : AO} : WkO a .junk := fun _ _ _ _ => trivial
/-- what is reached stays within the text -/
noncomputable def Rok (T R : List Int) : Prop := R.length ≤ T.length + 1 ∧ ∀ k ∈ R, 0 ≤ k ∧ k ≤ (T.length : Int)
theorem rints_len (n : Nat) : (rints 0 1 n).length = n := by unfold rints; simp
theorem stepR_ok {T R : List Int} {sg : Int} (h : Rok T R) : Rok T (stepR T R sg) := by
  unfold stepR
  split
  · refine ⟨?_, fun k hk => ?_⟩
    · have := List.length_filterMap_le (fun k => if R ≠ [] ∧ R.getD (0 : Int).toNat 0 ≤ k then some k else none) (rints 0 1 (T.length + 1))
      rw [rints_len] at this
      exact this
    · obtain ⟨j, h1, h2⟩ := List.mem_filterMap.mp hk
      split at h2
      · cases h2
        have := mem_rints h1
        omega
      · cases h2
  · refine ⟨Nat.le_trans (List.length_filterMap_le _ _) h.1, fun k hk => ?_⟩
    obtain ⟨j, h1, h2⟩ := List.mem_filterMap.mp hk
    split at h2
    · rename_i q
      cases h2
      have := h.2 j h1
      omega
    · cases h2
theorem u10J (D P T M N : List Int) (o s : Int) (hT : T.length ≤ 4) : ∀ (l R : List Int) (v : Int), Rok T R → ∃ v' : Int, TurnsG pw K fL 40 13 (targetOf (lst 10)) (bodyOf (lst 10)) (fun τ => SrcL K τ (.obj 5) (P.map .int)) (l.map .int) (sJ D P T M N o s (some (.int v)) R) .next (sJ D P T M N o s (some (.int v')) (l.foldl (stepR T) R))
  | [], R, v, _ => ⟨v, .nil (.told rfl rfl)⟩
  | sg :: l, R, v, h => by
    obtain ⟨v', ht⟩ := u10J D P T M N o s hT l (stepR T R sg) sg (stepR_ok h)
    exact ⟨v', .nextG (.told rfl rfl) (tgt_ok U4_ok (t10J D P T M N R o s sg _)) (kJ D P T M N R o s sg hT (by have := h.1; omega) fun k hk => (h.2 k hk).1) (.inl rfl) (g10s D P T M N R _ o s sg) (g10r D P T M N R _ o s sg) ht⟩
theorem u10H (D P T M N : List Int) (o s : Int) (hT : T.length ≤ 4) (l R : List Int) (sg : Int) (u : Option AV) (h : Rok T R) : ∃ v' : Int, TurnsG pw K fL 40 13 (targetOf (lst 10)) (bodyOf (lst 10)) (fun τ => SrcL K τ (.obj 5) (P.map .int)) ((sg :: l).map .int) (sH D P T M N o s u R) .next (sJ D P T M N o s (some (.int v')) ((sg :: l).foldl (stepR T) R)) := by
  obtain ⟨v', ht⟩ := u10J D P T M N o s hT l (stepR T R sg) sg (stepR_ok h)
  have hb : EvB pw K fL 40 (bodyOf (lst 10)) (sH D P T M N o s (some (.int sg)) R) .next (sJ D P T M N o s (some (.int sg)) (stepR T R sg)) :=
    (kH D P T M N R o s sg hT (by have := h.1; omega) fun k hk => (h.2 k hk).1).wk (wk_cells (wk_bas (.cons wkJunk .refl))) .refl rfl
  exact ⟨v', .next (.told rfl rfl) (tgt_ok U4_ok (t10H D P T M N R o s sg _)) hb (.inl rfl) ht⟩
theorem s10st : lst 10 = .For (targetOf (lst 10)) (iterOf (lst 10)) (bodyOf (lst 10)) [] (posOfS (lst 10)) := by kernel_rfl
theorem s10pt : plainTarget (targetOf (lst 10)) = true := by kernel_rfl
theorem s10pi : plainIter (iterOf (lst 10)) = true := by kernel_rfl
theorem s10i (D P T M N R : List Int) (o s : Int) (u : Option AV) : LX (iterOf (lst 10)) (sH D P T M N o s u R) [] = some (.obj 5, sH D P T M N o s u R, [], []) := by kernel_rfl
theorem s10a (D P T M N R : List Int) (o s sg : Int) (l : List Int) (u : Option AV) (hT : T.length ≤ 4) (h : Rok T R) (hP : P = sg :: l) : ∃ v' : Int, EvS pw K fL 40 (lst 10) (sH D P T M N o s u R) .next (sJ D P T M N o s (some (.int v')) (P.foldl (stepR T) R)) := by
  obtain ⟨v', ht⟩ := u10H D P T M N o s hT l R sg u h
  refine ⟨v', ?_⟩
  rw [s10st]
  refine .forLG (LX_ok (s10i D P T M N R o s u) g0) (.told rfl rfl) s10pt ?_ (plainIter_of s10pi)
  have e : (sg :: l).map AV.int = P.map .int := by rw [hP]
  rw [← e]
  conv => rhs; rw [hP]
  subst hP
  exact ht
theorem s10b (D T M N R : List Int) (o s : Int) (u : Option AV) : EvS pw K fL 40 (lst 10) (sH D [] T M N o s u R) .next (sH D [] T M N o s u R) := by
  rw [s10st]
  exact .forLG (xs := []) (LX_ok (s10i D [] T M N R o s u) g0) (.told rfl rfl) s10pt (.nil (.told rfl rfl)) (plainIter_of s10pi)
end Mine
/-! text L12 -/
open PySem PySem.W PyProof.Rows PySem.Spec PySem.Calls
set_option Elab.async false
set_option maxRecDepth 100000
set_option maxHeartbeats 0
namespace Mine
/-! answer -/
noncomputable abbrev lsB (o s a : Int) (l : List (Option AV)) : List (Option AV) := lsA o s (none :: some (.int a) :: l)
theorem s11Jt (D P T M N R : List Int) (o s v : Int) : LSc (lst 11) (sJ D P T M N o s (some (.int v)) R) [.b true] (upto 14) = some (.next, stL none (some (.obj 13)) (some (.obj 6)) (some (.int v)) (bas D P T M N o [.junk, .il R]) (lsA o s [none, some (.cint 1)]), [T.length < 2 ^ 62, (R.any (· == (T.length : Int))) = true]) := by kernel_rfl
theorem s11Jf (D P T M N R : List Int) (o s v : Int) : LSc (lst 11) (sJ D P T M N o s (some (.int v)) R) [.b false] (upto 14) = some (.next, stL none (some (.obj 13)) (some (.obj 6)) (some (.int v)) (bas D P T M N o [.junk, .il R]) (lsA o s [none, some (.cint 0)]), [T.length < 2 ^ 62, (R.any (· == (T.length : Int))) = false]) := by kernel_rfl
theorem s11Ht (D P T M N R : List Int) (o s : Int) (u : Option AV) (hu : Cu u) : LSc (lst 11) (sH D P T M N o s u R) [.b true] (upto 13) = some (.next, stL none (some (.obj 12)) (some (.obj 6)) u (bas D P T M N o [.il R]) (lsA o s [none, some (.cint 1)]), [T.length < 2 ^ 62, (R.any (· == (T.length : Int))) = true]) := by
  rcases hu with rfl | ⟨v, rfl⟩ <;> kernel_rfl
theorem s11Hf (D P T M N R : List Int) (o s : Int) (u : Option AV) (hu : Cu u) : LSc (lst 11) (sH D P T M N o s u R) [.b false] (upto 13) = some (.next, stL none (some (.obj 12)) (some (.obj 6)) u (bas D P T M N o [.il R]) (lsA o s [none, some (.cint 0)]), [T.length < 2 ^ 62, (R.any (· == (T.length : Int))) = false]) := by
  rcases hu with rfl | ⟨v, rfl⟩ <;> kernel_rfl
noncomputable def ansI (T R : List Int) : Int := if R.any (· == (T.length : Int)) = true then 1 else 0
theorem lsA_c {o s a : Int} : WkA (lsA o s [none, some (.cint a)]) (lsA o s [none, some (.int a)]) := .some .refl (.some .refl (.some .refl (.some .refl (.none (.some .refl (.some .refl (.some .refl (.some .refl (.none (.some .intC .nil))))))))))
noncomputable abbrev sK (D P T M N : List Int) (o s : Int) (u : Option AV) (a : Int) (l : List AO) (ls : List (Option AV)) : S := stL none (some .top) (some (.obj 6)) u (bas D P T M N o (.junk :: l)) (lsB o s a ls)
theorem s11J (D P T M N R : List Int) (o s v : Int) (hT : T.length ≤ 4) : EvS pw K fL 40 (lst 11) (sJ D P T M N o s (some (.int v)) R) .next (sK D P T M N o s (some (.int v)) (ansI T R) [.il R] []) := by
  have hl : T.length < 2 ^ 62 := by omega
  have w : ∀ a : Int, WkOs (stL none (some (.obj 13)) (some (.obj 6)) (some (.int v)) (bas D P T M N o [.junk, .il R]) (lsA o s [none, some (.cint a)])).objs (sK D P T M N o s (some (.int v)) a [.il R] []).objs := fun a => .cons .refl (.cons (wkCell .top) .refl)
  unfold ansI
  by_cases h : R.any (· == (T.length : Int)) = true
  · rw [if_pos h]
    exact (LSc_ok (s11Jt D P T M N R o s v) (gcons hl (gcons h g0))).wk (w 1) (ln_wk lsA_c) rfl
  · rw [if_neg h]
    exact (LSc_ok (s11Jf D P T M N R o s v) (gcons hl (gcons (Bool.eq_false_iff.mpr h) g0))).wk (w 0) (ln_wk lsA_c) rfl
theorem s11H (D P T M N R : List Int) (o s : Int) (u : Option AV) (hu : Cu u) (hT : T.length ≤ 4) : EvS pw K fL 40 (lst 11) (sH D P T M N o s u R) .next (sK D P T M N o s u (ansI T R) [] []) := by
  have hl : T.length < 2 ^ 62 := by omega
  have w : ∀ a : Int, WkOs (stL none (some (.obj 12)) (some (.obj 6)) u (bas D P T M N o [.il R]) (lsA o s [none, some (.cint a)])).objs (sK D P T M N o s u a [] []).objs := fun a => .cons .refl (.cons (wkCell .top) (.cons .refl (.cons .refl (wk_bas (.cons wkJunk .nil)))))
  unfold ansI
  by_cases h : R.any (· == (T.length : Int)) = true
  · rw [if_pos h]
    exact (LSc_ok (s11Ht D P T M N R o s u hu) (gcons hl (gcons h g0))).wk (w 1) (ln_wk lsA_c) rfl
  · rw [if_neg h]
    exact (LSc_ok (s11Hf D P T M N R o s u hu) (gcons hl (gcons (Bool.eq_false_iff.mpr h) g0))).wk (w 0) (ln_wk lsA_c) rfl
theorem s11s (D P T M N R : List Int) (o s v a : Int) (u : Option AV) : selOk (sH D P T M N o s u [0]).objs.length (sK D P T M N o s (some (.int v)) a [.il R] []).objs.length (upto 13) = true := by kernel_rfl
theorem s11r (D P T M N R : List Int) (o s v a : Int) : renS (upto 13) (sK D P T M N o s (some (.int v)) a [.il R] []) = some (sK D P T M N o s (some (.int v)) a [] []) := by kernel_rfl
/-- what is reached in the end -/
noncomputable def rch (P T : List Int) : List Int := P.foldl (stepR T) [0]
theorem s10_11 (D P T M N : List Int) (o s : Int) (u : Option AV) (hu : Cu u) (hT : T.length ≤ 4) : ∃ u', Cu u' ∧ EvB pw K fL 40 [lst 10, lst 11] (sH D P T M N o s u [0]) .next (sK D P T M N o s u' (ansI T (rch P T)) [] []) := by
  have h0 : Rok T [0] := ⟨by simp, fun k hk => by simp at hk; omega⟩
  cases P with
  | nil => exact ⟨u, hu, .cons (s10b D T M N [0] o s u) (.cons (s11H D [] T M N [0] o s u hu hT) .nil)⟩
  | cons sg l =>
    obtain ⟨v, h⟩ := s10a D (sg :: l) T M N [0] o s sg l u hT h0 rfl
    exact ⟨some (.int v), .inr ⟨v, rfl⟩, (EvB.cons h (.cons (s11J D (sg :: l) T M N _ o s v hT) .nil)).gc (s11s D (sg :: l) T M N _ o s v _ u) (s11r D (sg :: l) T M N _ o s v _) rfl⟩
end Mine
/-! text L13 -/
open PySem PySem.W PyProof.Rows PySem.Spec PySem.Calls
set_option Elab.async false
set_option maxRecDepth 100000
set_option maxHeartbeats 0
namespace Mine
/-! rest -/
noncomputable def p12 : CP := cpOf (valE (lst 12))
theorem p12e : valE (lst 12) = p12.e := by kernel_rfl
theorem p12ifs : p12.ifs = [] := by kernel_rfl
theorem p12it : plainIter p12.iter = true := by kernel_rfl
noncomputable def cs12 : List (Str × Nat) := [(Str.ofString "text", 2)]
theorem p12c (σ : S) (h : σ.cells = cs4) : compOkB fL p12.scope p12.x cs12 σ.cells = true := by rw [h]; kernel_rfl
noncomputable def rest0 (T : List Int) : List Int := (rints 0 1 (T.length + 1)).filterMap fun k => some (if k = (T.length : Int) then 1 else 0)
theorem s12i (D P T M N : List Int) (o s a : Int) (u : Option AV) : LXd 38 fL p12.iter (sK D P T M N o s u a [] []) [] = some (.obj 13, sK D P T M N o s u a [.rng 0 ((T.length : Int) + 1) 1] [], [], [T.length < 2 ^ 62]) := by kernel_rfl
noncomputable abbrev o12 (D P T M N : List Int) (o : Int) (u : Option AV) : List AO := .cell none :: .cell (some .top) :: .cell (some (.obj 6)) :: .cell u :: bas D P T M N o [.junk, .rng 0 ((T.length : Int) + 1) 1]
theorem s12t (D P T M N : List Int) (o k : Int) (u : Option AV) : LXd 38 (gOf fL p12.scope) p12.elt (sT (o12 D P T M N o u) p12.x k cs12) [.b true] = some (.cint 1, sT (o12 D P T M N o u) p12.x k cs12, [], [T.length < 2 ^ 62, (k == (T.length : Int)) = true]) := by kernel_rfl
theorem s12f (D P T M N : List Int) (o k : Int) (u : Option AV) : LXd 38 (gOf fL p12.scope) p12.elt (sT (o12 D P T M N o u) p12.x k cs12) [.b false] = some (.cint 0, sT (o12 D P T M N o u) p12.x k cs12, [], [T.length < 2 ^ 62, (k == (T.length : Int)) = false]) := by kernel_rfl
theorem s12e (D P T M N : List Int) (o s a : Int) (u : Option AV) (hT : T.length ≤ 4) : EvE pw K fL 39 (valE (lst 12)) (sK D P T M N o s u a [] []) (.obj 14) (sK D P T M N o s u a [.rng 0 ((T.length : Int) + 1) 1, .il (rest0 T)] []) := by
  have hl : T.length < 2 ^ 62 := by omega
  rw [p12e]
  refine .compRI (i := 13) (n := T.length + 1) (cs := cs12) (LXd_ok (s12i D P T M N o s a u) (gcons hl g0)) rfl (rsmall (by omega)) (rsize _) (p12c _ rfl) rfl (by omega) (fun k _ => ?_) p12it
  by_cases h : k = (T.length : Int)
  · rw [if_pos h]
    exact turn_ask p12ifs (s12t D P T M N o k u) (gcons hl (gcons (beq_iff_eq.mpr h) g0)) .intC
  · rw [if_neg h]
    exact turn_ask p12ifs (s12f D P T M N o k u) (gcons hl (gcons (beq_eq_false_iff_ne.mpr h) g0)) .intC
noncomputable abbrev sL (D P T M N Q : List Int) (o s : Int) (u : Option AV) (l : List AO) (ls : List (Option AV)) : S := stL (some (.obj 13)) (some .top) (some (.obj 6)) u (bas D P T M N o (.junk :: .il Q :: l)) (lsA o s ls)
theorem s12k (D P T M N : List Int) (o s a : Int) (u : Option AV) (hu : Cu u) : LSc (lst 12) (sK D P T M N o s u a [] []) [.e (.obj 14) (sK D P T M N o s u a [.rng 0 ((T.length : Int) + 1) 1, .il (rest0 T)] [])] (upto 13 ++ [14]) = some (.next, sL D P T M N (rest0 T) o s u [] [none, some (.int a)], [EvE pw K fL 39 (valE (lst 12)) (sK D P T M N o s u a [] []) (.obj 14) (sK D P T M N o s u a [.rng 0 ((T.length : Int) + 1) 1, .il (rest0 T)] [])]) := by
  rcases hu with rfl | ⟨v, rfl⟩ <;> kernel_rfl
theorem s12 (D P T M N : List Int) (o s a : Int) (u : Option AV) (hu : Cu u) (hT : T.length ≤ 4) : EvS pw K fL 40 (lst 12) (sK D P T M N o s u a [] []) .next (sL D P T M N (rest0 T) o s u [] [none, some (.int a)]) := LSc_ok (s12k D P T M N o s a u hu) (gcons (s12e D P T M N o s a u hT) g0)
/-! place -/
theorem s13k (D P T M N Q : List Int) (o s a : Int) (u : Option AV) : LS (lst 13) (sL D P T M N Q o s u [] [none, some (.int a)]) [] = some (.next, sL D P T M N Q o s u [] [some (.cint 0), some (.int a)], [], []) := by kernel_rfl
theorem lsA_w {o s : Int} {l l' : List (Option AV)} (h : WkA l l') : WkA (lsA o s l) (lsA o s l') := .some .refl (.some .refl (.some .refl (.some .refl (.none (.some .refl (.some .refl (.some .refl (.some .refl h))))))))
theorem s13_ (D P T M N Q : List Int) (o s a : Int) (u : Option AV) : EvS pw K fL 40 (lst 13) (sL D P T M N Q o s u [] [none, some (.int a)]) .next (sL D P T M N Q o s u [] [some (.int (0 : Nat)), some (.int a)]) :=
  (LS_ok (s13k D P T M N Q o s a u) g0).wk .refl (ln_wk (lsA_w (.some .intC .refl))) rfl
/-! the matching front -/
noncomputable abbrev sW (D P T M N Q : List Int) (o s a : Int) (u : Option AV) (p : Int) : S := sL D P T M N Q o s u [] [some (.int p), some (.int a)]
section
variable (D P T M N Q : List Int) (o s a p : Int) (u : Option AV)
theorem w14t1 : LT (testOf (lst 14)) (sW D P T M N Q o s a u p) [.b true, .b true, .b true] = some (true, sW D P T M N Q o s a u p, [], [P.length < 2 ^ 62, decide (p < (P.length : Int)) = true, T.length < 2 ^ 62, decide (p < (T.length : Int)) = true, InB P.length p, (P.getD p.toNat 0 == 63) = true]) := by kernel_rfl
theorem w14t2 : LT (testOf (lst 14)) (sW D P T M N Q o s a u p) [.b true, .b true, .b false, .b true] = some (true, sW D P T M N Q o s a u p, [], [P.length < 2 ^ 62, decide (p < (P.length : Int)) = true, T.length < 2 ^ 62, decide (p < (T.length : Int)) = true, InB P.length p, (P.getD p.toNat 0 == 63) = false, InB P.length p, InB T.length p, (P.getD p.toNat 0 == T.getD p.toNat 0) = true]) := by kernel_rfl
theorem w14f1 : LT (testOf (lst 14)) (sW D P T M N Q o s a u p) [.b false] = some (false, sW D P T M N Q o s a u p, [], [P.length < 2 ^ 62, decide (p < (P.length : Int)) = false]) := by kernel_rfl
theorem w14f2 : LT (testOf (lst 14)) (sW D P T M N Q o s a u p) [.b true, .b false] = some (false, sW D P T M N Q o s a u p, [], [P.length < 2 ^ 62, decide (p < (P.length : Int)) = true, T.length < 2 ^ 62, decide (p < (T.length : Int)) = false]) := by kernel_rfl
theorem w14f3 : LT (testOf (lst 14)) (sW D P T M N Q o s a u p) [.b true, .b true, .b false, .b false] = some (false, sW D P T M N Q o s a u p, [], [P.length < 2 ^ 62, decide (p < (P.length : Int)) = true, T.length < 2 ^ 62, decide (p < (T.length : Int)) = true, InB P.length p, (P.getD p.toNat 0 == 63) = false, InB P.length p, InB T.length p, (P.getD p.toNat 0 == T.getD p.toNat 0) = false]) := by kernel_rfl
theorem w14b : LB (bodyOf (lst 14)) (sW D P T M N Q o s a u p) [] = some (.next, sW D P T M N Q o s a u (p + 1), [], []) := by kernel_rfl
end
/-- the front goes on at p -/
noncomputable def fits (P T : List Int) (p : Nat) : Prop := p < P.length ∧ p < T.length ∧ (P.getD p 0 = 63 ∨ P.getD p 0 = T.getD p 0)
instance (P T : List Int) (p : Nat) : Decidable (fits P T p) := by unfold fits; infer_instance
theorem w14y (D P T M N Q : List Int) (o s a : Int) (u : Option AV) (p : Nat) (hP : P.length ≤ 5) (hT : T.length ≤ 4) (h : fits P T p) : EvT pw K fL 40 (testOf (lst 14)) (sW D P T M N Q o s a u p) true (sW D P T M N Q o s a u p) := by
  obtain ⟨h1, h2, h3⟩ := h
  have l1 : P.length < 2 ^ 62 := by omega
  have l2 : T.length < 2 ^ 62 := by omega
  have d1 : decide ((p : Int) < (P.length : Int)) = true := decide_eq_true (by omega)
  have d2 : decide ((p : Int) < (T.length : Int)) = true := decide_eq_true (by omega)
  have b1 : InB P.length p := ⟨by omega, by omega, by omega⟩
  have b2 : InB T.length p := ⟨by omega, by omega, by omega⟩
  by_cases q : P.getD p 0 = 63
  · exact LT_ok (w14t1 D P T M N Q o s a p u) (gcons l1 (gcons d1 (gcons l2 (gcons d2 (gcons b1 (gcons (beq_iff_eq.mpr q) g0))))))
  · rcases h3 with h3 | h3
    · exact absurd h3 q
    · exact LT_ok (w14t2 D P T M N Q o s a p u) (gcons l1 (gcons d1 (gcons l2 (gcons d2 (gcons b1 (gcons (beq_eq_false_iff_ne.mpr q) (gcons b1 (gcons b2 (gcons (beq_iff_eq.mpr h3) g0)))))))))
theorem w14n (D P T M N Q : List Int) (o s a : Int) (u : Option AV) (p : Nat) (hP : P.length ≤ 5) (hT : T.length ≤ 4) (h : ¬ fits P T p) : EvT pw K fL 40 (testOf (lst 14)) (sW D P T M N Q o s a u p) false (sW D P T M N Q o s a u p) := by
  have l1 : P.length < 2 ^ 62 := by omega
  have l2 : T.length < 2 ^ 62 := by omega
  by_cases h1 : p < P.length
  · have d1 : decide ((p : Int) < (P.length : Int)) = true := decide_eq_true (by omega)
    by_cases h2 : p < T.length
    · have d2 : decide ((p : Int) < (T.length : Int)) = true := decide_eq_true (by omega)
      have b1 : InB P.length p := ⟨by omega, by omega, by omega⟩
      have b2 : InB T.length p := ⟨by omega, by omega, by omega⟩
      have q1 : P.getD p 0 ≠ 63 := fun q => h ⟨h1, h2, .inl q⟩
      have q2 : P.getD p 0 ≠ T.getD p 0 := fun q => h ⟨h1, h2, .inr q⟩
      exact LT_ok (w14f3 D P T M N Q o s a p u) (gcons l1 (gcons d1 (gcons l2 (gcons d2 (gcons b1 (gcons (beq_eq_false_iff_ne.mpr q1) (gcons b1 (gcons b2 (gcons (beq_eq_false_iff_ne.mpr q2) g0)))))))))
    · exact LT_ok (w14f2 D P T M N Q o s a p u) (gcons l1 (gcons d1 (gcons l2 (gcons (decide_eq_false (by omega)) g0))))
  · exact LT_ok (w14f1 D P T M N Q o s a p u) (gcons l1 (gcons (decide_eq_false (by omega)) g0))
theorem w14w (D P T M N Q : List Int) (o s a : Int) (u : Option AV) (hP : P.length ≤ 5) (hT : T.length ≤ 4) : ∀ (n p : Nat), T.length ≤ p + n → ∃ p', p ≤ p' ∧ (∀ q, p ≤ q → q < p' → fits P T q) ∧ ¬ fits P T p' ∧ While pw K fL 40 (testOf (lst 14)) (bodyOf (lst 14)) n (sW D P T M N Q o s a u p) .next (sW D P T M N Q o s a u p')
  | n, p, hn => by
    by_cases h : fits P T p
    · cases n with
      | zero => exact absurd h.2.1 (by omega)
      | succ n =>
        obtain ⟨p', h1, h2, h3, h4⟩ := w14w D P T M N Q o s a u hP hT n (p + 1) (by omega)
        refine ⟨p', by omega, fun q hq hq' => ?_, h3, .turn (w14y D P T M N Q o s a u p hP hT h) (LB_ok (w14b D P T M N Q o s a p u) g0) (.inl rfl) h4⟩
        by_cases e : q = p
        · rw [e]; exact h
        · exact h2 q (by omega) hq'
    · exact ⟨p, Nat.le_refl _, fun q h1 h2 => absurd h1 (by omega), h, .done (w14n D P T M N Q o s a u p hP hT h)⟩
theorem s14st : lst 14 = .While (testOf (lst 14)) (bodyOf (lst 14)) [] (posOfS (lst 14)) := by kernel_rfl
theorem s14 (D P T M N Q : List Int) (o s a : Int) (u : Option AV) (hP : P.length ≤ 5) (hT : T.length ≤ 4) : ∃ p, (∀ q, q < p → fits P T q) ∧ ¬ fits P T p ∧ EvS pw K fL 40 (lst 14) (sW D P T M N Q o s a u (0 : Nat)) .next (sW D P T M N Q o s a u p) := by
  obtain ⟨p, _, h2, h3, h4⟩ := w14w D P T M N Q o s a u hP hT 4 0 (by omega)
  refine ⟨p, fun q hq => h2 q (Nat.zero_le _) hq, h3, ?_⟩
  rw [s14st]
  exact .while h4
end Mine
/-! text L14 -/
open PySem PySem.W PyProof.Rows PySem.Spec PySem.Calls
set_option Elab.async false
set_option maxRecDepth 100000
set_option maxHeartbeats 0
namespace Mine
noncomputable def LBd (d : Nat) (st : List Stmt) (σ : S) (o : Orc) : R Out := lawB pw K (d + 1) U4 (LE d) fL st σ o
noncomputable def LSd (d : Nat) (st : Stmt) (σ : S) (o : Orc) : R Out := lawS pw K (d + 1) U4 (LE d) fL st σ o
theorem LBd_ok {d : Nat} {st : List Stmt} {σ σ' : S} {o : Orc} {out : Out} {g : List Prop} (h : LBd d st σ o = some (out, σ', [], g)) (hg : ∀ p ∈ g, p) : EvB pw K fL (d + 1) st σ out σ' := lawB_ok U4_ok (lawN_ok U4_ok d) h hg
theorem LSd_ok {d : Nat} {st : Stmt} {σ σ' : S} {o : Orc} {out : Out} {g : List Prop} (h : LSd d st σ o = some (out, σ', [], g)) (hg : ∀ p ∈ g, p) : EvS pw K fL (d + 1) st σ out σ' := lawS_ok U4_ok (lawN_ok U4_ok d) h hg
noncomputable def LBdc (d : Nat) (st : List Stmt) (σ : S) (o : Orc) (sel : List Nat) := fin (renOut sel) σ sel (LBd d st σ o)
theorem LBdc_ok {d : Nat} {st : List Stmt} {σ σ' : S} {o : Orc} {sel : List Nat} {out : Out} {g : List Prop} (h : LBdc d st σ o sel = some (out, σ', g)) (hg : ∀ p ∈ g, p) : EvB pw K fL (d + 1) st σ out σ' := by
  obtain ⟨x, σ₁, h1, h2, h3, h4⟩ := fin_of h
  exact (LBd_ok h1 hg).gc h2 h3 h4
/-! the table of the rests: its turns -/
noncomputable def st16 (i : Nat) : Stmt := stA (bodyOf (lst 16)) i
noncomputable def st16b (i : Nat) : Stmt := stA (bodyOf (st16 0)) i
noncomputable def pC : CP := cpOf (valE (ifB (bodyOf (st16b 1))))
noncomputable def pD : CP := cpOf (valE (ifB (elseOf (st16b 1))))
theorem pCe : valE (ifB (bodyOf (st16b 1))) = pC.e := by kernel_rfl
theorem pDe : valE (ifB (elseOf (st16b 1))) = pD.e := by kernel_rfl
theorem pCifs : pC.ifs = [] := by kernel_rfl
theorem pDifs : pD.ifs = [] := by kernel_rfl
theorem pCit : plainIter pC.iter = true := by kernel_rfl
theorem pDit : plainIter pD.iter = true := by kernel_rfl
noncomputable def csC : List (Str × Nat) := [(Str.ofString "rest", 0)]
noncomputable def csD : List (Str × Nat) := [(Str.ofString "rest", 0), (Str.ofString "text", 2), (Str.ofString "sign", 3)]
theorem pCc (σ : S) (h : σ.cells = cs4) : compOkB fL pC.scope pC.x csC σ.cells = true := by rw [h]; kernel_rfl
theorem pDc (σ : S) (h : σ.cells = cs4) : compOkB fL pD.scope pD.x csD σ.cells = true := by rw [h]; kernel_rfl
noncomputable def starQ (T Q : List Int) : List Int := (rints 0 1 (T.length + 1)).filterMap fun k => some (if (sliceI Q (some k) none).any (· == 1) = true then 1 else 0)
noncomputable def charQ (T : List Int) (sg : Int) (Q : List Int) : List Int := (rints 0 1 (T.length + 1)).filterMap fun k => some (if k < (T.length : Int) ∧ (sg = 63 ∨ T.getD k.toNat 0 = sg) then Q.getD (k + 1).toNat 0 else 0)
noncomputable def stepQ (T Q : List Int) (sg : Int) : List Int := if sg = 42 then starQ T Q else charQ T sg Q
noncomputable abbrev lsX (o s p a x y : Int) (l : List (Option AV)) : List (Option AV) := lsA o s (some (.int p) :: some (.int a) :: some (.int x) :: some (.int y) :: l)
/-! form X1 -/
section
variable (D P T M N Q : List Int) (o s p a x y A B C b sg k : Int) (u : Option AV)
noncomputable abbrev rX1 (D P T M N : List Int) (o s p a x y A B C : Int) (Q : List Int) (u : Option AV) (bk : Option AV) (l : List AO) : S := stL (some (.obj 13)) (some .top) (some (.obj 6)) u (bas D P T M N o (.junk :: .il Q :: .rng A B C :: l)) (lsX o s p a x y [bk])
theorem cX1i (bk : Option AV) : LXd 36 fL pC.iter (rX1 D P T M N o s p a x y A B C Q (some (.int sg)) bk []) [] = some (.obj 15, rX1 D P T M N o s p a x y A B C Q (some (.int sg)) bk [.rng 0 ((T.length : Int) + 1) 1], [], [T.length < 2 ^ 62]) := by kernel_rfl
theorem dX1i (bk : Option AV) : LXd 36 fL pD.iter (rX1 D P T M N o s p a x y A B C Q (some (.int sg)) bk []) [] = some (.obj 15, rX1 D P T M N o s p a x y A B C Q (some (.int sg)) bk [.rng 0 ((T.length : Int) + 1) 1], [], [T.length < 2 ^ 62]) := by kernel_rfl
noncomputable abbrev qX1 (D P T M N Q : List Int) (o A B C sg : Int) : List AO := .cell (some (.obj 13)) :: .cell (some .top) :: .cell (some (.obj 6)) :: .cell (some (.int sg)) :: bas D P T M N o (.junk :: [.il Q, .rng A B C, .rng 0 ((T.length : Int) + 1) 1])
theorem cX1t : LXdc 36 (gOf fL pC.scope) pC.elt (sT (qX1 D P T M N Q o A B C sg) pC.x k csC) [.b true] (upto 16) = some (.cint 1, sT (qX1 D P T M N Q o A B C sg) pC.x k csC, [Q.length ≤ 60000, 0 ≤ k, (sliceI Q (some k) none).any (· == 1) = true]) := by kernel_rfl
theorem cX1f : LXdc 36 (gOf fL pC.scope) pC.elt (sT (qX1 D P T M N Q o A B C sg) pC.x k csC) [.b false] (upto 16) = some (.cint 0, sT (qX1 D P T M N Q o A B C sg) pC.x k csC, [Q.length ≤ 60000, 0 ≤ k, (sliceI Q (some k) none).any (· == 1) = false]) := by kernel_rfl
theorem dX11 : LXd 36 (gOf fL pD.scope) pD.elt (sT (qX1 D P T M N Q o A B C sg) pD.x k csD) [.b true, .b true] = some (.int (Q.getD (k + 1).toNat 0), sT (qX1 D P T M N Q o A B C sg) pD.x k csD, [], [T.length < 2 ^ 62, decide (k < (T.length : Int)) = true, (sg == 63) = true, InB Q.length (k + 1)]) := by kernel_rfl
theorem dX12 : LXd 36 (gOf fL pD.scope) pD.elt (sT (qX1 D P T M N Q o A B C sg) pD.x k csD) [.b true, .b false, .b true] = some (.int (Q.getD (k + 1).toNat 0), sT (qX1 D P T M N Q o A B C sg) pD.x k csD, [], [T.length < 2 ^ 62, decide (k < (T.length : Int)) = true, (sg == 63) = false, InB T.length k, (T.getD k.toNat 0 == sg) = true, InB Q.length (k + 1)]) := by kernel_rfl
theorem dX13 : LXd 36 (gOf fL pD.scope) pD.elt (sT (qX1 D P T M N Q o A B C sg) pD.x k csD) [.b false] = some (.cint 0, sT (qX1 D P T M N Q o A B C sg) pD.x k csD, [], [T.length < 2 ^ 62, decide (k < (T.length : Int)) = false]) := by kernel_rfl
theorem dX14 : LXd 36 (gOf fL pD.scope) pD.elt (sT (qX1 D P T M N Q o A B C sg) pD.x k csD) [.b true, .b false, .b false] = some (.cint 0, sT (qX1 D P T M N Q o A B C sg) pD.x k csD, [], [T.length < 2 ^ 62, decide (k < (T.length : Int)) = true, (sg == 63) = false, InB T.length k, (T.getD k.toNat 0 == sg) = false]) := by kernel_rfl
end
theorem cX1 (D P T M N Q : List Int) (o s p a x y A B C sg : Int) (bk : Option AV) (hT : T.length ≤ 4) (hQ : Q.length = T.length + 1) : EvE pw K fL 37 (valE (ifB (bodyOf (st16b 1)))) (rX1 D P T M N o s p a x y A B C Q (some (.int sg)) bk []) (.obj 16) (rX1 D P T M N o s p a x y A B C Q (some (.int sg)) bk [.rng 0 ((T.length : Int) + 1) 1, .il (starQ T Q)]) := by
  have hl : T.length < 2 ^ 62 := by omega
  have hq : Q.length ≤ 60000 := by omega
  rw [pCe]
  refine .compRI (i := 15) (n := T.length + 1) (cs := csC) (LXd_ok (cX1i D P T M N Q o s p a x y A B C sg bk) (gcons hl g0)) rfl (rsmall (by omega)) (rsize _) (pCc _ rfl) rfl (by omega) (fun k hk => ?_) pCit
  have hk0 := (mem_rints hk).1
  by_cases h : (sliceI Q (some k) none).any (· == 1) = true
  · rw [if_pos h]
    exact ⟨sT (qX1 D P T M N Q o A B C sg) pC.x k csC, sT (qX1 D P T M N Q o A B C sg) pC.x k csC, .cint 1, by rw [pCifs]; exact .nil, LXdc_ok (cX1t D P T M N Q o A B C sg k) (gcons hq (gcons hk0 (gcons h g0))), .intC, rfl⟩
  · rw [if_neg h]
    exact ⟨sT (qX1 D P T M N Q o A B C sg) pC.x k csC, sT (qX1 D P T M N Q o A B C sg) pC.x k csC, .cint 0, by rw [pCifs]; exact .nil, LXdc_ok (cX1f D P T M N Q o A B C sg k) (gcons hq (gcons hk0 (gcons (Bool.eq_false_iff.mpr h) g0))), .intC, rfl⟩
theorem dX1 (D P T M N Q : List Int) (o s p a x y A B C sg : Int) (bk : Option AV) (hT : T.length ≤ 4) (hQ : Q.length = T.length + 1) : EvE pw K fL 37 (valE (ifB (elseOf (st16b 1)))) (rX1 D P T M N o s p a x y A B C Q (some (.int sg)) bk []) (.obj 16) (rX1 D P T M N o s p a x y A B C Q (some (.int sg)) bk [.rng 0 ((T.length : Int) + 1) 1, .il (charQ T sg Q)]) := by
  have hl : T.length < 2 ^ 62 := by omega
  rw [pDe]
  refine .compRI (i := 15) (n := T.length + 1) (cs := csD) (LXd_ok (dX1i D P T M N Q o s p a x y A B C sg bk) (gcons hl g0)) rfl (rsmall (by omega)) (rsize _) (pDc _ rfl) rfl (by omega) (fun k hk => ?_) pDit
  have hk0 := (mem_rints hk).1
  by_cases h : k < (T.length : Int)
  · have hb : InB T.length k := ⟨hk0, h, by omega⟩
    have hb' : InB Q.length (k + 1) := ⟨by omega, by omega, by omega⟩
    by_cases h1 : sg = 63
    · rw [if_pos ⟨h, .inl h1⟩]
      exact turn_ask pDifs (dX11 D P T M N Q o A B C sg k) (gcons hl (gcons (decide_eq_true h) (gcons (beq_iff_eq.mpr h1) (gcons hb' g0)))) .refl
    · have e1 : (sg == 63) = false := beq_eq_false_iff_ne.mpr h1
      by_cases h2 : T.getD k.toNat 0 = sg
      · rw [if_pos ⟨h, .inr h2⟩]
        exact turn_ask pDifs (dX12 D P T M N Q o A B C sg k) (gcons hl (gcons (decide_eq_true h) (gcons e1 (gcons hb (gcons (beq_iff_eq.mpr h2) (gcons hb' g0)))))) .refl
      · rw [if_neg (by rintro ⟨_, q | q⟩; exact h1 q; exact h2 q)]
        exact turn_ask pDifs (dX14 D P T M N Q o A B C sg k) (gcons hl (gcons (decide_eq_true h) (gcons e1 (gcons hb (gcons (beq_eq_false_iff_ne.mpr h2) g0))))) .intC
  · rw [if_neg fun q => h q.1]
    exact turn_ask pDifs (dX13 D P T M N Q o A B C sg k) (gcons hl (gcons (decide_eq_false h) g0)) .intC
/-! form X2 -/
section
variable (D P T M N Q : List Int) (o s p a x y A B C b sg k : Int) (u : Option AV)
noncomputable abbrev rX2 (D P T M N : List Int) (o s p a x y A B C : Int) (Q : List Int) (u : Option AV) (bk : Option AV) (l : List AO) : S := stL (some (.obj 15)) (some .top) (some (.obj 6)) u (bas D P T M N o (.junk :: .junk :: .rng A B C :: .il Q :: l)) (lsX o s p a x y [bk])
theorem cX2i (bk : Option AV) : LXd 36 fL pC.iter (rX2 D P T M N o s p a x y A B C Q (some (.int sg)) bk []) [] = some (.obj 16, rX2 D P T M N o s p a x y A B C Q (some (.int sg)) bk [.rng 0 ((T.length : Int) + 1) 1], [], [T.length < 2 ^ 62]) := by kernel_rfl
theorem dX2i (bk : Option AV) : LXd 36 fL pD.iter (rX2 D P T M N o s p a x y A B C Q (some (.int sg)) bk []) [] = some (.obj 16, rX2 D P T M N o s p a x y A B C Q (some (.int sg)) bk [.rng 0 ((T.length : Int) + 1) 1], [], [T.length < 2 ^ 62]) := by kernel_rfl
noncomputable abbrev qX2 (D P T M N Q : List Int) (o A B C sg : Int) : List AO := .cell (some (.obj 15)) :: .cell (some .top) :: .cell (some (.obj 6)) :: .cell (some (.int sg)) :: bas D P T M N o (.junk :: [.junk, .rng A B C, .il Q, .rng 0 ((T.length : Int) + 1) 1])
theorem cX2t : LXdc 36 (gOf fL pC.scope) pC.elt (sT (qX2 D P T M N Q o A B C sg) pC.x k csC) [.b true] (upto 17) = some (.cint 1, sT (qX2 D P T M N Q o A B C sg) pC.x k csC, [Q.length ≤ 60000, 0 ≤ k, (sliceI Q (some k) none).any (· == 1) = true]) := by kernel_rfl
theorem cX2f : LXdc 36 (gOf fL pC.scope) pC.elt (sT (qX2 D P T M N Q o A B C sg) pC.x k csC) [.b false] (upto 17) = some (.cint 0, sT (qX2 D P T M N Q o A B C sg) pC.x k csC, [Q.length ≤ 60000, 0 ≤ k, (sliceI Q (some k) none).any (· == 1) = false]) := by kernel_rfl
theorem dX21 : LXd 36 (gOf fL pD.scope) pD.elt (sT (qX2 D P T M N Q o A B C sg) pD.x k csD) [.b true, .b true] = some (.int (Q.getD (k + 1).toNat 0), sT (qX2 D P T M N Q o A B C sg) pD.x k csD, [], [T.length < 2 ^ 62, decide (k < (T.length : Int)) = true, (sg == 63) = true, InB Q.length (k + 1)]) := by kernel_rfl
theorem dX22 : LXd 36 (gOf fL pD.scope) pD.elt (sT (qX2 D P T M N Q o A B C sg) pD.x k csD) [.b true, .b false, .b true] = some (.int (Q.getD (k + 1).toNat 0), sT (qX2 D P T M N Q o A B C sg) pD.x k csD, [], [T.length < 2 ^ 62, decide (k < (T.length : Int)) = true, (sg == 63) = false, InB T.length k, (T.getD k.toNat 0 == sg) = true, InB Q.length (k + 1)]) := by kernel_rfl
theorem dX23 : LXd 36 (gOf fL pD.scope) pD.elt (sT (qX2 D P T M N Q o A B C sg) pD.x k csD) [.b false] = some (.cint 0, sT (qX2 D P T M N Q o A B C sg) pD.x k csD, [], [T.length < 2 ^ 62, decide (k < (T.length : Int)) = false]) := by kernel_rfl
theorem dX24 : LXd 36 (gOf fL pD.scope) pD.elt (sT (qX2 D P T M N Q o A B C sg) pD.x k csD) [.b true, .b false, .b false] = some (.cint 0, sT (qX2 D P T M N Q o A B C sg) pD.x k csD, [], [T.length < 2 ^ 62, decide (k < (T.length : Int)) = true, (sg == 63) = false, InB T.length k, (T.getD k.toNat 0 == sg) = false]) := by kernel_rfl
end
theorem cX2 (D P T M N Q : List Int) (o s p a x y A B C sg : Int) (bk : Option AV) (hT : T.length ≤ 4) (hQ : Q.length = T.length + 1) : EvE pw K fL 37 (valE (ifB (bodyOf (st16b 1)))) (rX2 D P T M N o s p a x y A B C Q (some (.int sg)) bk []) (.obj 17) (rX2 D P T M N o s p a x y A B C Q (some (.int sg)) bk [.rng 0 ((T.length : Int) + 1) 1, .il (starQ T Q)]) := by
  have hl : T.length < 2 ^ 62 := by omega
  have hq : Q.length ≤ 60000 := by omega
  rw [pCe]
  refine .compRI (i := 16) (n := T.length + 1) (cs := csC) (LXd_ok (cX2i D P T M N Q o s p a x y A B C sg bk) (gcons hl g0)) rfl (rsmall (by omega)) (rsize _) (pCc _ rfl) rfl (by omega) (fun k hk => ?_) pCit
  have hk0 := (mem_rints hk).1
  by_cases h : (sliceI Q (some k) none).any (· == 1) = true
  · rw [if_pos h]
    exact ⟨sT (qX2 D P T M N Q o A B C sg) pC.x k csC, sT (qX2 D P T M N Q o A B C sg) pC.x k csC, .cint 1, by rw [pCifs]; exact .nil, LXdc_ok (cX2t D P T M N Q o A B C sg k) (gcons hq (gcons hk0 (gcons h g0))), .intC, rfl⟩
  · rw [if_neg h]
    exact ⟨sT (qX2 D P T M N Q o A B C sg) pC.x k csC, sT (qX2 D P T M N Q o A B C sg) pC.x k csC, .cint 0, by rw [pCifs]; exact .nil, LXdc_ok (cX2f D P T M N Q o A B C sg k) (gcons hq (gcons hk0 (gcons (Bool.eq_false_iff.mpr h) g0))), .intC, rfl⟩
theorem dX2 (D P T M N Q : List Int) (o s p a x y A B C sg : Int) (bk : Option AV) (hT : T.length ≤ 4) (hQ : Q.length = T.length + 1) : EvE pw K fL 37 (valE (ifB (elseOf (st16b 1)))) (rX2 D P T M N o s p a x y A B C Q (some (.int sg)) bk []) (.obj 17) (rX2 D P T M N o s p a x y A B C Q (some (.int sg)) bk [.rng 0 ((T.length : Int) + 1) 1, .il (charQ T sg Q)]) := by
  have hl : T.length < 2 ^ 62 := by omega
  rw [pDe]
  refine .compRI (i := 16) (n := T.length + 1) (cs := csD) (LXd_ok (dX2i D P T M N Q o s p a x y A B C sg bk) (gcons hl g0)) rfl (rsmall (by omega)) (rsize _) (pDc _ rfl) rfl (by omega) (fun k hk => ?_) pDit
  have hk0 := (mem_rints hk).1
  by_cases h : k < (T.length : Int)
  · have hb : InB T.length k := ⟨hk0, h, by omega⟩
    have hb' : InB Q.length (k + 1) := ⟨by omega, by omega, by omega⟩
    by_cases h1 : sg = 63
    · rw [if_pos ⟨h, .inl h1⟩]
      exact turn_ask pDifs (dX21 D P T M N Q o A B C sg k) (gcons hl (gcons (decide_eq_true h) (gcons (beq_iff_eq.mpr h1) (gcons hb' g0)))) .refl
    · have e1 : (sg == 63) = false := beq_eq_false_iff_ne.mpr h1
      by_cases h2 : T.getD k.toNat 0 = sg
      · rw [if_pos ⟨h, .inr h2⟩]
        exact turn_ask pDifs (dX22 D P T M N Q o A B C sg k) (gcons hl (gcons (decide_eq_true h) (gcons e1 (gcons hb (gcons (beq_iff_eq.mpr h2) (gcons hb' g0)))))) .refl
      · rw [if_neg (by rintro ⟨_, q | q⟩; exact h1 q; exact h2 q)]
        exact turn_ask pDifs (dX24 D P T M N Q o A B C sg k) (gcons hl (gcons (decide_eq_true h) (gcons e1 (gcons hb (gcons (beq_eq_false_iff_ne.mpr h2) g0))))) .intC
  · rw [if_neg fun q => h q.1]
    exact turn_ask pDifs (dX23 D P T M N Q o A B C sg k) (gcons hl (gcons (decide_eq_false h) g0)) .intC
end Mine
/-! text L15 -/
open PySem PySem.W PyProof.Rows PySem.Spec PySem.Calls
set_option Elab.async false
set_option maxRecDepth 100000
set_option maxHeartbeats 0
namespace Mine
/-! for back in .. : the body -/
noncomputable abbrev rX0 (D P T M N : List Int) (o s p a x y A B C : Int) (j : Nat) (u : Option AV) (bk : Option AV) (l : List AO) : S := stL (some (.obj j)) (some .top) (some (.obj 6)) u (bas D P T M N o (.junk :: l)) (lsX o s p a x y [bk])
section
variable (D P T M N Q : List Int) (o s p a x y A B C b : Int) (u : Option AV)
theorem e1a : LBdc 38 (bodyOf (st16 0)) (rX1 D P T M N o s p a x y A B C Q u (some (.int b)) []) [.b true, .e (.obj 16) (rX1 D P T M N o s p a x y A B C Q (some (.int (P.getD b.toNat 0))) (some (.int b)) [.rng 0 ((T.length : Int) + 1) 1, .il (starQ T Q)])] (upto 15 ++ [16]) = some (.next, rX0 D P T M N o s p a x y A B C 15 (some (.int (P.getD b.toNat 0))) (some (.int b)) [.il Q, .rng A B C, .il (starQ T Q)],
  [InB P.length b, (P.getD b.toNat 0 == 42) = true, EvE pw K fL 37 (valE (ifB (bodyOf (st16b 1)))) (rX1 D P T M N o s p a x y A B C Q (some (.int (P.getD b.toNat 0))) (some (.int b)) []) (.obj 16) (rX1 D P T M N o s p a x y A B C Q (some (.int (P.getD b.toNat 0))) (some (.int b)) [.rng 0 ((T.length : Int) + 1) 1, .il (starQ T Q)])]) := by kernel_rfl
theorem e1b : LBdc 38 (bodyOf (st16 0)) (rX1 D P T M N o s p a x y A B C Q u (some (.int b)) []) [.b false, .e (.obj 16) (rX1 D P T M N o s p a x y A B C Q (some (.int (P.getD b.toNat 0))) (some (.int b)) [.rng 0 ((T.length : Int) + 1) 1, .il (charQ T (P.getD b.toNat 0) Q)])] (upto 15 ++ [16]) = some (.next, rX0 D P T M N o s p a x y A B C 15 (some (.int (P.getD b.toNat 0))) (some (.int b)) [.il Q, .rng A B C, .il (charQ T (P.getD b.toNat 0) Q)],
  [InB P.length b, (P.getD b.toNat 0 == 42) = false, EvE pw K fL 37 (valE (ifB (elseOf (st16b 1)))) (rX1 D P T M N o s p a x y A B C Q (some (.int (P.getD b.toNat 0))) (some (.int b)) []) (.obj 16) (rX1 D P T M N o s p a x y A B C Q (some (.int (P.getD b.toNat 0))) (some (.int b)) [.rng 0 ((T.length : Int) + 1) 1, .il (charQ T (P.getD b.toNat 0) Q)])]) := by kernel_rfl
theorem e2a : LBdc 38 (bodyOf (st16 0)) (rX2 D P T M N o s p a x y A B C Q u (some (.int b)) []) [.b true, .e (.obj 17) (rX2 D P T M N o s p a x y A B C Q (some (.int (P.getD b.toNat 0))) (some (.int b)) [.rng 0 ((T.length : Int) + 1) 1, .il (starQ T Q)])] (upto 16 ++ [17]) = some (.next, rX0 D P T M N o s p a x y A B C 16 (some (.int (P.getD b.toNat 0))) (some (.int b)) [.junk, .rng A B C, .il Q, .il (starQ T Q)],
  [InB P.length b, (P.getD b.toNat 0 == 42) = true, EvE pw K fL 37 (valE (ifB (bodyOf (st16b 1)))) (rX2 D P T M N o s p a x y A B C Q (some (.int (P.getD b.toNat 0))) (some (.int b)) []) (.obj 17) (rX2 D P T M N o s p a x y A B C Q (some (.int (P.getD b.toNat 0))) (some (.int b)) [.rng 0 ((T.length : Int) + 1) 1, .il (starQ T Q)])]) := by kernel_rfl
theorem e2b : LBdc 38 (bodyOf (st16 0)) (rX2 D P T M N o s p a x y A B C Q u (some (.int b)) []) [.b false, .e (.obj 17) (rX2 D P T M N o s p a x y A B C Q (some (.int (P.getD b.toNat 0))) (some (.int b)) [.rng 0 ((T.length : Int) + 1) 1, .il (charQ T (P.getD b.toNat 0) Q)])] (upto 16 ++ [17]) = some (.next, rX0 D P T M N o s p a x y A B C 16 (some (.int (P.getD b.toNat 0))) (some (.int b)) [.junk, .rng A B C, .il Q, .il (charQ T (P.getD b.toNat 0) Q)],
  [InB P.length b, (P.getD b.toNat 0 == 42) = false, EvE pw K fL 37 (valE (ifB (elseOf (st16b 1)))) (rX2 D P T M N o s p a x y A B C Q (some (.int (P.getD b.toNat 0))) (some (.int b)) []) (.obj 17) (rX2 D P T M N o s p a x y A B C Q (some (.int (P.getD b.toNat 0))) (some (.int b)) [.rng 0 ((T.length : Int) + 1) 1, .il (charQ T (P.getD b.toNat 0) Q)])]) := by kernel_rfl
theorem e1t (bk : Option AV) : tgt U4 fL (targetOf (st16 0)) (.int b) (rX1 D P T M N o s p a x y A B C Q u bk []) = some (rX1 D P T M N o s p a x y A B C Q u (some (.int b)) []) := by kernel_rfl
theorem e2t (bk : Option AV) : tgt U4 fL (targetOf (st16 0)) (.int b) (rX2 D P T M N o s p a x y A B C Q u bk []) = some (rX2 D P T M N o s p a x y A B C Q u (some (.int b)) []) := by kernel_rfl
theorem e2s (Q' : List Int) (v : Int) : selOk 15 (rX0 D P T M N o s p a x y A B C 16 (some (.int v)) (some (.int b)) [.junk, .rng A B C, .il Q, .il Q']).objs.length (upto 15 ++ [16]) = true := by kernel_rfl
theorem e2r (Q' : List Int) (v : Int) : renS (upto 15 ++ [16]) (rX0 D P T M N o s p a x y A B C 16 (some (.int v)) (some (.int b)) [.junk, .rng A B C, .il Q, .il Q']) = some (rX2 D P T M N o s p a x y A B C Q' (some (.int v)) (some (.int b)) []) := by kernel_rfl
end
theorem starQ_len (T Q : List Int) : (starQ T Q).length = T.length + 1 := by
  unfold starQ
  rw [List.filterMap_eq_map' (f := fun k => if (sliceI Q (some k) none).any (· == 1) = true then (1 : Int) else 0), List.length_map, rints_len]
theorem charQ_len (T Q : List Int) (sg : Int) : (charQ T sg Q).length = T.length + 1 := by
  unfold charQ
  rw [List.filterMap_eq_map' (f := fun k => if k < (T.length : Int) ∧ (sg = 63 ∨ T.getD k.toNat 0 = sg) then Q.getD (k + 1).toNat 0 else (0 : Int)), List.length_map, rints_len]
theorem stepQ_len (T Q : List Int) (sg : Int) : (stepQ T Q sg).length = T.length + 1 := by
  unfold stepQ
  split
  · exact starQ_len T Q
  · exact charQ_len T Q sg
theorem bk1 (D P T M N Q : List Int) (o s p a x y A B C b : Int) (u : Option AV) (hT : T.length ≤ 4) (hQ : Q.length = T.length + 1) (hb : InB P.length b) : EvB pw K fL 39 (bodyOf (st16 0)) (rX1 D P T M N o s p a x y A B C Q u (some (.int b)) []) .next (rX2 D P T M N o s p a x y A B C (stepQ T Q (P.getD b.toNat 0)) (some (.int (P.getD b.toNat 0))) (some (.int b)) []) := by
  have w : ∀ Q' : List Int, WkOs (rX0 D P T M N o s p a x y A B C 15 (some (.int (P.getD b.toNat 0))) (some (.int b)) [.il Q, .rng A B C, .il Q']).objs (rX2 D P T M N o s p a x y A B C Q' (some (.int (P.getD b.toNat 0))) (some (.int b)) []).objs := fun Q' => wk_cells (wk_bas (.cons .refl (.cons wkJunk .refl)))
  unfold stepQ
  by_cases h : P.getD b.toNat 0 = 42
  · rw [if_pos h]
    exact (LBdc_ok (e1a D P T M N Q o s p a x y A B C b u) (gcons hb (gcons (beq_iff_eq.mpr h) (gcons (cX1 D P T M N Q o s p a x y A B C _ _ hT hQ) g0)))).wk (w _) .refl rfl
  · rw [if_neg h]
    exact (LBdc_ok (e1b D P T M N Q o s p a x y A B C b u) (gcons hb (gcons (beq_eq_false_iff_ne.mpr h) (gcons (dX1 D P T M N Q o s p a x y A B C _ _ hT hQ) g0)))).wk (w _) .refl rfl
theorem bk2 (D P T M N Q : List Int) (o s p a x y A B C b : Int) (u : Option AV) (hT : T.length ≤ 4) (hQ : Q.length = T.length + 1) (hb : InB P.length b) : EvB pw K fL 39 (bodyOf (st16 0)) (rX2 D P T M N o s p a x y A B C Q u (some (.int b)) []) .next (rX0 D P T M N o s p a x y A B C 16 (some (.int (P.getD b.toNat 0))) (some (.int b)) [.junk, .rng A B C, .il Q, .il (stepQ T Q (P.getD b.toNat 0))]) := by
  unfold stepQ
  by_cases h : P.getD b.toNat 0 = 42
  · rw [if_pos h]
    exact LBdc_ok (e2a D P T M N Q o s p a x y A B C b u) (gcons hb (gcons (beq_iff_eq.mpr h) (gcons (cX2 D P T M N Q o s p a x y A B C _ _ hT hQ) g0)))
  · rw [if_neg h]
    exact LBdc_ok (e2b D P T M N Q o s p a x y A B C b u) (gcons hb (gcons (beq_eq_false_iff_ne.mpr h) (gcons (dX2 D P T M N Q o s p a x y A B C _ _ hT hQ) g0)))
/-- the table after the signs at the places l -/
noncomputable def tabQ (P T : List Int) (l : List Int) (Q : List Int) : List Int := l.foldl (fun Q b => stepQ T Q (P.getD b.toNat 0)) Q
theorem tabQ_len (P T : List Int) : ∀ (l Q : List Int), Q.length = T.length + 1 → (tabQ P T l Q).length = T.length + 1
  | [], _, h => h
  | _ :: l, Q, _ => tabQ_len P T l _ (stepQ_len T Q _)
theorem u2 (D P T M N : List Int) (o s p a x y A B C : Int) (hT : T.length ≤ 4) : ∀ (l Q : List Int) (v c : Int), Q.length = T.length + 1 → (∀ b ∈ l, InB P.length b) → ∃ v' c' : Int, TurnsG pw K fL 39 15 (targetOf (st16 0)) (bodyOf (st16 0)) (fun _ => True) (l.map .int) (rX2 D P T M N o s p a x y A B C Q (some (.int v)) (some (.int c)) []) .next (rX2 D P T M N o s p a x y A B C (tabQ P T l Q) (some (.int v')) (some (.int c')) [])
  | [], Q, v, c, _, _ => ⟨v, c, .nil trivial⟩
  | b :: l, Q, v, c, hQ, hb => by
    obtain ⟨v', c', ht⟩ := u2 D P T M N o s p a x y A B C hT l (stepQ T Q (P.getD b.toNat 0)) (P.getD b.toNat 0) b (stepQ_len ..) fun b' h => hb b' (.tail _ h)
    exact ⟨v', c', .nextG trivial (tgt_ok U4_ok (e2t D P T M N Q o s p a x y A B C b _ _)) (bk2 D P T M N Q o s p a x y A B C b _ hT hQ (hb b (.head _))) (.inl rfl) (e2s D P T M N Q o s p a x y A B C b _ _) (e2r D P T M N Q o s p a x y A B C b _ _) ht⟩
theorem u1 (D P T M N Q : List Int) (o s p a x y A B C b : Int) (l : List Int) (u bk : Option AV) (hT : T.length ≤ 4) (hQ : Q.length = T.length + 1) (hb : ∀ b' ∈ b :: l, InB P.length b') : ∃ v' c' : Int, TurnsG pw K fL 39 15 (targetOf (st16 0)) (bodyOf (st16 0)) (fun _ => True) ((b :: l).map .int) (rX1 D P T M N o s p a x y A B C Q u bk []) .next (rX2 D P T M N o s p a x y A B C (tabQ P T (b :: l) Q) (some (.int v')) (some (.int c')) []) := by
  obtain ⟨v', c', ht⟩ := u2 D P T M N o s p a x y A B C hT l (stepQ T Q (P.getD b.toNat 0)) (P.getD b.toNat 0) b (stepQ_len ..) fun b' h => hb b' (.tail _ h)
  exact ⟨v', c', .next trivial (tgt_ok U4_ok (e1t D P T M N Q o s p a x y A B C b _ _)) (bk1 D P T M N Q o s p a x y A B C b _ hT hQ (hb b (.head _))) (.inl rfl) ht⟩
end Mine
/-! text L16 -/
open PySem PySem.W PyProof.Rows PySem.Spec PySem.Calls
set_option Elab.async false
set_option maxRecDepth 100000
set_option maxHeartbeats 0
namespace Mine
noncomputable def LTdd (e : Expr) (σ : S) (o : Orc) := LTd 38 fL e σ o
/-! for back in .. -/
noncomputable abbrev sX (D P T M N Q : List Int) (o s p a x y : Int) (u : Option AV) : S := stL (some (.obj 13)) (some .top) (some (.obj 6)) u (bas D P T M N o [.junk, .il Q]) (lsX o s p a x y [none])
noncomputable def nmOf : Expr → Str
  | .Name x _ => x
  | _ => Str.ofString ""
noncomputable def psOf : Expr → Pos
  | .Name _ p => p
  | _ => default
theorem s16tg : targetOf (st16 0) = .Name (nmOf (targetOf (st16 0))) (psOf (targetOf (st16 0))) := by kernel_rfl
theorem s16st : st16 0 = .For (targetOf (st16 0)) (iterOf (st16 0)) (bodyOf (st16 0)) [] (posOfS (st16 0)) := by kernel_rfl
theorem s16pi : plainIter (iterOf (st16 0)) = true := by kernel_rfl
theorem s16i (D P T M N Q : List Int) (o s p a x y : Int) (u : Option AV) : LXd 38 fL (iterOf (st16 0)) (sX D P T M N Q o s p a x y u) [] = some (.obj 14, rX1 D P T M N o s p a x y ((P.length : Int) - 1) p (-1) Q u none [], [], [P.length < 2 ^ 62, (-1 : Int) ≠ 0, Builtin.divisionGoesByPylong (p - ((P.length : Int) - 1)) (-1) = false]) := by kernel_rfl
theorem rsizeD (m p : Nat) (h : p < m) : Builtin.Range.rangeSize ((m : Int) - 1) p (-1) = ((m - 1 - p : Nat) : Int) := by
  unfold Builtin.Range.rangeSize
  rw [if_neg (by decide)]
  split
  · rw [Int.neg_neg, Int.ediv_one]; omega
  · omega
theorem rsmallD {m p : Nat} (hm : m ≤ 1000) (hp : p ≤ 1000) : Builtin.Range.small ((m : Int) - 1) p (-1) = true := small_down (by omega) (by omega) (by omega) (by omega)
/-- the places from the end of the pattern down to p -/
noncomputable def backs (P : List Int) (p : Nat) : List Int := rints ((P.length : Int) - 1) (-1) (P.length - 1 - p)
theorem backs_ok {P : List Int} {p : Nat} (hP : P.length ≤ 5) (h : p < P.length) : ∀ b ∈ backs P p, InB P.length b := by
  intro b hb
  unfold backs rints at hb
  obtain ⟨j, hj, rfl⟩ := List.mem_map.mp hb
  rw [List.mem_range'] at hj
  exact ⟨by omega, by omega, by omega⟩
theorem s16for (D P T M N Q : List Int) (o s a x y : Int) (p : Nat) (u : Option AV) (σ' : S) (hP : P.length ≤ 5) (h : p < P.length) (ht : TurnsG pw K fL 39 15 (targetOf (st16 0)) (bodyOf (st16 0)) (fun _ => True) ((backs P p).map .int) (rX1 D P T M N o s p a x y ((P.length : Int) - 1) p (-1) Q u none []) .next σ') :
    EvS pw K fL 39 (st16 0) (sX D P T M N Q o s p a x y u) .next σ' := by
  rw [s16st]
  rw [s16tg] at ht ⊢
  refine .forRG (LXd_ok (s16i D P T M N Q o s p a x y u) (gcons (by omega) (gcons (by decide) (gcons (PyProof.noPylong_small (by decide)) g0)))) rfl (rsmallD (by omega) (by omega)) (rsizeD _ _ h) ?_ (plainIter_of s16pi)
  rw [rangeAV_ints]
  exact ht
/-! while y < .. -/
noncomputable def gap (T Q : List Int) (y : Nat) : Prop := y < T.length ∧ Q.getD y 0 = 0
instance (T Q : List Int) (y : Nat) : Decidable (gap T Q y) := by unfold gap; infer_instance
theorem w16st : st16 1 = .While (testOf (st16 1)) (bodyOf (st16 1)) [] (posOfS (st16 1)) := by kernel_rfl
section
variable (D P T M N Q : List Int) (o s p a x y : Int) (u : Option AV)
noncomputable abbrev yA : S := stL (some (.obj 13)) (some .top) (some (.obj 6)) u (bas D P T M N o [.junk, .il Q]) (lsX o s p a x y [none])
theorem wAt : LTd 38 fL (testOf (st16 1)) (yA D P T M N Q o s p a x y u) [.b true, .b true] = some (true, yA D P T M N Q o s p a x y u, [], [T.length < 2 ^ 62, decide (y < (T.length : Int)) = true, InB Q.length y, (Q.getD y.toNat 0 == 0) = true]) := by kernel_rfl
theorem wAf : LTd 38 fL (testOf (st16 1)) (yA D P T M N Q o s p a x y u) [.b true, .b false] = some (false, yA D P T M N Q o s p a x y u, [], [T.length < 2 ^ 62, decide (y < (T.length : Int)) = true, InB Q.length y, (Q.getD y.toNat 0 == 0) = false]) := by kernel_rfl
theorem wAg : LTd 38 fL (testOf (st16 1)) (yA D P T M N Q o s p a x y u) [.b false] = some (false, yA D P T M N Q o s p a x y u, [], [T.length < 2 ^ 62, decide (y < (T.length : Int)) = false]) := by kernel_rfl
theorem wAb : LBd 38 (bodyOf (st16 1)) (yA D P T M N Q o s p a x y u) [] = some (.next, yA D P T M N Q o s p a x (y + 1) u, [], []) := by kernel_rfl
end
theorem wAy (D P T M N Q : List Int) (o s p a x : Int) (u : Option AV) (y : Nat) (hT : T.length ≤ 4) (hQ : Q.length = T.length + 1) (h : gap T Q y) : EvT pw K fL 39 (testOf (st16 1)) (yA D P T M N Q o s p a x y u) true (yA D P T M N Q o s p a x y u) :=
  LTd_ok (wAt D P T M N Q o s p a x y u) (gcons (by omega) (gcons (decide_eq_true (by have := h.1; omega)) (gcons ⟨by omega, by have := h.1; omega, by have := h.1; omega⟩ (gcons (beq_iff_eq.mpr h.2) g0))))
theorem wAn (D P T M N Q : List Int) (o s p a x : Int) (u : Option AV) (y : Nat) (hT : T.length ≤ 4) (hQ : Q.length = T.length + 1) (h : ¬ gap T Q y) : EvT pw K fL 39 (testOf (st16 1)) (yA D P T M N Q o s p a x y u) false (yA D P T M N Q o s p a x y u) := by
  by_cases h1 : y < T.length
  · exact LTd_ok (wAf D P T M N Q o s p a x y u) (gcons (by omega) (gcons (decide_eq_true (by omega)) (gcons ⟨by omega, by omega, by omega⟩ (gcons (beq_eq_false_iff_ne.mpr fun q => h ⟨h1, q⟩) g0))))
  · exact LTd_ok (wAg D P T M N Q o s p a x y u) (gcons (by omega) (gcons (decide_eq_false (by omega)) g0))
theorem wAw (D P T M N Q : List Int) (o s p a x : Int) (u : Option AV) (hT : T.length ≤ 4) (hQ : Q.length = T.length + 1) : ∀ (n y : Nat), T.length ≤ y + n → ∃ y', y ≤ y' ∧ (∀ q, y ≤ q → q < y' → gap T Q q) ∧ ¬ gap T Q y' ∧ While pw K fL 39 (testOf (st16 1)) (bodyOf (st16 1)) n (yA D P T M N Q o s p a x y u) .next (yA D P T M N Q o s p a x y' u)
  | n, y, hn => by
    by_cases h : gap T Q y
    · cases n with
      | zero => exact absurd h.1 (by omega)
      | succ n =>
        obtain ⟨y', h1, h2, h3, h4⟩ := wAw D P T M N Q o s p a x u hT hQ n (y + 1) (by omega)
        refine ⟨y', by omega, fun q hq hq' => ?_, h3, .turn (wAy D P T M N Q o s p a x u y hT hQ h) (LBd_ok (wAb D P T M N Q o s p a x y u) g0) (.inl rfl) h4⟩
        by_cases e : q = y
        · rw [e]; exact h
        · exact h2 q (by omega) hq'
    · exact ⟨y, Nat.le_refl _, fun q h1 h2 => absurd h1 (by omega), h, .done (wAn D P T M N Q o s p a x u y hT hQ h)⟩
theorem wA (D P T M N Q : List Int) (o s p a x : Int) (u : Option AV) (y : Nat) (hT : T.length ≤ 4) (hQ : Q.length = T.length + 1) : ∃ y', y ≤ y' ∧ (∀ q, y ≤ q → q < y' → gap T Q q) ∧ ¬ gap T Q y' ∧ EvS pw K fL 39 (st16 1) (yA D P T M N Q o s p a x y u) .next (yA D P T M N Q o s p a x y' u) := by
  obtain ⟨y', h1, h2, h3, h4⟩ := wAw D P T M N Q o s p a x u hT hQ 4 y (by omega)
  refine ⟨y', h1, h2, h3, ?_⟩
  rw [w16st]
  exact .while h4
section
variable (D P T M N Q : List Int) (o s p a x y : Int) (u : Option AV)
noncomputable abbrev yB : S := stL (some (.obj 14)) (some .top) (some (.obj 6)) u (bas D P T M N o [.junk, .junk, .il Q]) (lsX o s p a x y [none])
theorem wBt : LTd 38 fL (testOf (st16 1)) (yB D P T M N Q o s p a x y u) [.b true, .b true] = some (true, yB D P T M N Q o s p a x y u, [], [T.length < 2 ^ 62, decide (y < (T.length : Int)) = true, InB Q.length y, (Q.getD y.toNat 0 == 0) = true]) := by kernel_rfl
theorem wBf : LTd 38 fL (testOf (st16 1)) (yB D P T M N Q o s p a x y u) [.b true, .b false] = some (false, yB D P T M N Q o s p a x y u, [], [T.length < 2 ^ 62, decide (y < (T.length : Int)) = true, InB Q.length y, (Q.getD y.toNat 0 == 0) = false]) := by kernel_rfl
theorem wBg : LTd 38 fL (testOf (st16 1)) (yB D P T M N Q o s p a x y u) [.b false] = some (false, yB D P T M N Q o s p a x y u, [], [T.length < 2 ^ 62, decide (y < (T.length : Int)) = false]) := by kernel_rfl
theorem wBb : LBd 38 (bodyOf (st16 1)) (yB D P T M N Q o s p a x y u) [] = some (.next, yB D P T M N Q o s p a x (y + 1) u, [], []) := by kernel_rfl
end
theorem wBy (D P T M N Q : List Int) (o s p a x : Int) (u : Option AV) (y : Nat) (hT : T.length ≤ 4) (hQ : Q.length = T.length + 1) (h : gap T Q y) : EvT pw K fL 39 (testOf (st16 1)) (yB D P T M N Q o s p a x y u) true (yB D P T M N Q o s p a x y u) :=
  LTd_ok (wBt D P T M N Q o s p a x y u) (gcons (by omega) (gcons (decide_eq_true (by have := h.1; omega)) (gcons ⟨by omega, by have := h.1; omega, by have := h.1; omega⟩ (gcons (beq_iff_eq.mpr h.2) g0))))
theorem wBn (D P T M N Q : List Int) (o s p a x : Int) (u : Option AV) (y : Nat) (hT : T.length ≤ 4) (hQ : Q.length = T.length + 1) (h : ¬ gap T Q y) : EvT pw K fL 39 (testOf (st16 1)) (yB D P T M N Q o s p a x y u) false (yB D P T M N Q o s p a x y u) := by
  by_cases h1 : y < T.length
  · exact LTd_ok (wBf D P T M N Q o s p a x y u) (gcons (by omega) (gcons (decide_eq_true (by omega)) (gcons ⟨by omega, by omega, by omega⟩ (gcons (beq_eq_false_iff_ne.mpr fun q => h ⟨h1, q⟩) g0))))
  · exact LTd_ok (wBg D P T M N Q o s p a x y u) (gcons (by omega) (gcons (decide_eq_false (by omega)) g0))
theorem wBw (D P T M N Q : List Int) (o s p a x : Int) (u : Option AV) (hT : T.length ≤ 4) (hQ : Q.length = T.length + 1) : ∀ (n y : Nat), T.length ≤ y + n → ∃ y', y ≤ y' ∧ (∀ q, y ≤ q → q < y' → gap T Q q) ∧ ¬ gap T Q y' ∧ While pw K fL 39 (testOf (st16 1)) (bodyOf (st16 1)) n (yB D P T M N Q o s p a x y u) .next (yB D P T M N Q o s p a x y' u)
  | n, y, hn => by
    by_cases h : gap T Q y
    · cases n with
      | zero => exact absurd h.1 (by omega)
      | succ n =>
        obtain ⟨y', h1, h2, h3, h4⟩ := wBw D P T M N Q o s p a x u hT hQ n (y + 1) (by omega)
        refine ⟨y', by omega, fun q hq hq' => ?_, h3, .turn (wBy D P T M N Q o s p a x u y hT hQ h) (LBd_ok (wBb D P T M N Q o s p a x y u) g0) (.inl rfl) h4⟩
        by_cases e : q = y
        · rw [e]; exact h
        · exact h2 q (by omega) hq'
    · exact ⟨y, Nat.le_refl _, fun q h1 h2 => absurd h1 (by omega), h, .done (wBn D P T M N Q o s p a x u y hT hQ h)⟩
theorem wB (D P T M N Q : List Int) (o s p a x : Int) (u : Option AV) (y : Nat) (hT : T.length ≤ 4) (hQ : Q.length = T.length + 1) : ∃ y', y ≤ y' ∧ (∀ q, y ≤ q → q < y' → gap T Q q) ∧ ¬ gap T Q y' ∧ EvS pw K fL 39 (st16 1) (yB D P T M N Q o s p a x y u) .next (yB D P T M N Q o s p a x y' u) := by
  obtain ⟨y', h1, h2, h3, h4⟩ := wBw D P T M N Q o s p a x u hT hQ 4 y (by omega)
  refine ⟨y', h1, h2, h3, ?_⟩
  rw [w16st]
  exact .while h4
/-! both -/
noncomputable abbrev sN (D P T M N : List Int) (o s p a x y : Int) (u : Option AV) : S := stL (some .top) (some .top) (some (.obj 6)) u (bas D P T M N o [.junk, .junk]) (lsX o s p a x y [none])
theorem lsX_w {o s p a x y : Int} {l l' : List (Option AV)} (h : WkA l l') : WkA (lsX o s p a x y l) (lsX o s p a x y l') := lsA_w (.some .refl (.some .refl (.some .refl (.some .refl h))))
theorem n0s (D P T M N Q : List Int) (o s p a x y A B C : Int) (u : Option AV) : selOk (sX D P T M N Q o s p a x y u).objs.length (rX1 D P T M N o s p a x y A B C Q u none []).objs.length (upto 14) = true := by kernel_rfl
theorem n0r (D P T M N Q : List Int) (o s p a x y A B C : Int) (u : Option AV) (hu : Cu u) : renS (upto 14) (rX1 D P T M N o s p a x y A B C Q u none []) = some (yA D P T M N Q o s p a x y u) := by
  rcases hu with rfl | ⟨v, rfl⟩ <;> kernel_rfl
theorem n1s (D P T M N Q Q' : List Int) (o s p a x y A B C v : Int) (u : Option AV) : selOk (sX D P T M N Q o s p a x y u).objs.length (rX2 D P T M N o s p a x y A B C Q' (some (.int v)) none []).objs.length (upto 14 ++ [15]) = true := by kernel_rfl
theorem n1r (D P T M N Q : List Int) (o s p a x y A B C v : Int) : renS (upto 14 ++ [15]) (rX2 D P T M N o s p a x y A B C Q (some (.int v)) none []) = some (yB D P T M N Q o s p a x y (some (.int v))) := by kernel_rfl
theorem n2s (D P T M N Q Q' : List Int) (o s p a x y y' v : Int) (u : Option AV) : selOk (sX D P T M N Q o s p a x y u).objs.length (stL (some .top) (some .top) (some (.obj 6)) (some (.int v)) (bas D P T M N o [.junk, .junk, .il Q']) (lsX o s p a x y' [none])).objs.length (upto 14) = true := by kernel_rfl
theorem n2r (D P T M N Q' : List Int) (o s p a x y' v : Int) : renS (upto 14) (stL (some .top) (some .top) (some (.obj 6)) (some (.int v)) (bas D P T M N o [.junk, .junk, .il Q']) (lsX o s p a x y' [none])) = some (sN D P T M N o s p a x y' (some (.int v))) := by kernel_rfl
theorem s16b (D P T M N Q : List Int) (o s a x : Int) (p y : Nat) (u : Option AV) (hu : Cu u) (hP : P.length ≤ 5) (hT : T.length ≤ 4) (hQ : Q.length = T.length + 1) (h : p < P.length) : ∃ (y' : Nat) (u' : Option AV), Cu u' ∧ y ≤ y' ∧ (∀ q, y ≤ q → q < y' → gap T (tabQ P T (backs P p) Q) q) ∧ ¬ gap T (tabQ P T (backs P p) Q) y' ∧
    EvB pw K fL 39 [st16 0, st16 1] (sX D P T M N Q o s p a x y u) .next (sN D P T M N o s p a x y' u') := by
  have hb := backs_ok hP h
  cases e : backs P p with
  | nil =>
    have f0 : EvS pw K fL 39 (st16 0) (sX D P T M N Q o s p a x y u) .next (yA D P T M N Q o s p a x y u) :=
      (s16for D P T M N Q o s a x y p u _ hP h (by rw [e]; exact .nil trivial)).gc (n0s D P T M N Q o s p a x y _ _ _ u) (n0r D P T M N Q o s p a x y _ _ _ u hu) rfl
    obtain ⟨y', h1, h2, h3, h4⟩ := wA D P T M N Q o s p a x u y hT hQ
    exact ⟨y', u, hu, h1, h2, h3, (EvB.cons f0 (.cons h4 .nil)).wk (.cons (wkCell .top) (.cons .refl (.cons .refl (.cons .refl (wk_bas (.cons .refl (.cons wkJunk .nil))))))) .refl rfl⟩
  | cons b l =>
    rw [e] at hb
    obtain ⟨v, c, ht⟩ := u1 D P T M N Q o s p a x y ((P.length : Int) - 1) p (-1) b l u none hT hQ hb
    have f0 : EvS pw K fL 39 (st16 0) (sX D P T M N Q o s p a x y u) .next (rX2 D P T M N o s p a x y ((P.length : Int) - 1) p (-1) (tabQ P T (b :: l) Q) (some (.int v)) (some (.int c)) []) := s16for D P T M N Q o s a x y p u _ hP h (by rw [e]; exact ht)
    have f1 : EvS pw K fL 39 (st16 0) (sX D P T M N Q o s p a x y u) .next (rX2 D P T M N o s p a x y ((P.length : Int) - 1) p (-1) (tabQ P T (b :: l) Q) (some (.int v)) none []) := f0.wk .refl (ln_wk (lsX_w (.none .nil))) rfl
    have f2 : EvS pw K fL 39 (st16 0) (sX D P T M N Q o s p a x y u) .next (yB D P T M N (tabQ P T (b :: l) Q) o s p a x y (some (.int v))) := f1.gc (n1s D P T M N Q _ o s p a x y _ _ _ v u) (n1r D P T M N _ o s p a x y _ _ _ v) rfl
    obtain ⟨y', h1, h2, h3, h4⟩ := wB D P T M N (tabQ P T (b :: l) Q) o s p a x (some (.int v)) y hT (tabQ_len P T _ _ hQ)
    have f3 : EvB pw K fL 39 [st16 0, st16 1] (sX D P T M N Q o s p a x y u) .next (stL (some .top) (some .top) (some (.obj 6)) (some (.int v)) (bas D P T M N o [.junk, .junk, .il (tabQ P T (b :: l) Q)]) (lsX o s p a x y' [none])) := (EvB.cons f2 (.cons h4 .nil)).wk (.cons (wkCell .top) .refl) .refl rfl
    exact ⟨y', some (.int v), .inr ⟨v, rfl⟩, h1, h2, h3, f3.gc (n2s D P T M N Q _ o s p a x y y' v u) (n2r D P T M N _ o s p a x y' v) rfl⟩
end Mine
/-! text L17 -/
open PySem PySem.W PyProof.Rows PySem.Spec PySem.Calls
set_option Elab.async false
set_option maxRecDepth 100000
set_option maxHeartbeats 0
namespace Mine
/-! x, y -/
noncomputable abbrev sW1 (D P T M N Q : List Int) (o s a : Int) (u : Option AV) (p : Int) : S := sL D P T M N Q o s u [.tup [.int p, .int p]] [some (.int p), some (.int a)]
noncomputable abbrev sW2 (D P T M N Q : List Int) (o s a : Int) (u : Option AV) (p : Int) : S := stL (some (.obj 13)) (some .top) (some (.obj 6)) u (bas D P T M N o [.junk, .il Q, .tup [.int p, .int p]]) (lsX o s p a p p [none])
theorem s15v (D P T M N Q : List Int) (o s a p : Int) (u : Option AV) : LX (valE (lst 15)) (sW D P T M N Q o s a u p) [] = some (.obj 14, sW1 D P T M N Q o s a u p, [], []) := by kernel_rfl
theorem s15st : lst 15 = .Assign [.Tuple (tgs (lst 15)) (tgk (lst 15)) (tgp (lst 15))] (valE (lst 15)) (stp_ (lst 15)) := by kernel_rfl
theorem s15sw : swappedStores [.Tuple (tgs (lst 15)) (tgk (lst 15)) (tgp (lst 15))] (valE (lst 15)) (envOf fL.cs) = pure (some [Str.ofString "x", Str.ofString "y"]) := by kernel_rfl
theorem s15nc : notComp (valE (lst 15)) = true := by kernel_rfl
theorem s15b (D P T M N Q : List Int) (o s a p : Int) (u : Option AV) : bindNs fL [Str.ofString "y", Str.ofString "x"] [.int p, .int p] (sW1 D P T M N Q o s a u p) = some (sW2 D P T M N Q o s a u p) := by kernel_rfl
theorem s15a (D P T M N Q : List Int) (o s a p : Int) (u : Option AV) : EvS pw K fL 40 (lst 15) (sW D P T M N Q o s a u p) .next (sW2 D P T M N Q o s a u p) := by
  rw [s15st]
  exact .assignW2 (xs := [.int p, .int p]) (names := [Str.ofString "x", Str.ofString "y"]) rfl (LX_ok (s15v D P T M N Q o s a p u) g0) (.told rfl) (s15b D P T M N Q o s a p u) rfl s15nc s15sw
theorem s15s (D P T M N Q : List Int) (o s a p : Int) (u : Option AV) : selOk (sW D P T M N Q o s a u p).objs.length (sW2 D P T M N Q o s a u p).objs.length (upto 14) = true := by kernel_rfl
theorem s15r (D P T M N Q : List Int) (o s a p : Int) (u : Option AV) (hu : Cu u) : renS (upto 14) (sW2 D P T M N Q o s a u p) = some (sX D P T M N Q o s p a p p u) := by
  rcases hu with rfl | ⟨v, rfl⟩ <;> kernel_rfl
theorem s15_ (D P T M N Q : List Int) (o s a p : Int) (u : Option AV) (hu : Cu u) : EvS pw K fL 40 (lst 15) (sW D P T M N Q o s a u p) .next (sX D P T M N Q o s p a p p u) := (s15a D P T M N Q o s a p u).gc (s15s D P T M N Q o s a p u) (s15r D P T M N Q o s a p u hu) rfl
/-! if -/
theorem i16st : lst 16 = .If (testOf (lst 16)) [st16 0, st16 1] [] (posOfS (lst 16)) := by kernel_rfl
theorem i16t (D P T M N Q : List Int) (o s p a x y : Int) (u : Option AV) : LT (testOf (lst 16)) (sX D P T M N Q o s p a x y u) [.b true, .b true] = some (true, sX D P T M N Q o s p a x y u, [], [P.length < 2 ^ 62, decide (p < (P.length : Int)) = true, InB P.length p, (P.getD p.toNat 0 == 42) = true]) := by kernel_rfl
theorem i16f (D P T M N Q : List Int) (o s p a x y : Int) (u : Option AV) : LT (testOf (lst 16)) (sX D P T M N Q o s p a x y u) [.b true, .b false] = some (false, sX D P T M N Q o s p a x y u, [], [P.length < 2 ^ 62, decide (p < (P.length : Int)) = true, InB P.length p, (P.getD p.toNat 0 == 42) = false]) := by kernel_rfl
theorem i16g (D P T M N Q : List Int) (o s p a x y : Int) (u : Option AV) : LT (testOf (lst 16)) (sX D P T M N Q o s p a x y u) [.b false] = some (false, sX D P T M N Q o s p a x y u, [], [P.length < 2 ^ 62, decide (p < (P.length : Int)) = false]) := by kernel_rfl
/-- where y ends -/
noncomputable def endY (P T : List Int) (p y : Nat) : Prop := if p < P.length ∧ P.getD p 0 = 42 then p ≤ y ∧ (∀ q, p ≤ q → q < y → gap T (tabQ P T (backs P p) (rest0 T)) q) ∧ ¬ gap T (tabQ P T (backs P p) (rest0 T)) y else y = p
theorem rest0_len (T : List Int) : (rest0 T).length = T.length + 1 := by
  unfold rest0
  rw [List.filterMap_eq_map' (f := fun k => if k = (T.length : Int) then (1 : Int) else 0), List.length_map, rints_len]
theorem s16_ (D P T M N : List Int) (o s a : Int) (p : Nat) (u : Option AV) (hu : Cu u) (hP : P.length ≤ 5) (hT : T.length ≤ 4) : ∃ (y : Nat) (u' : Option AV), Cu u' ∧ endY P T p y ∧ EvS pw K fL 40 (lst 16) (sX D P T M N (rest0 T) o s p a p p u) .next (sN D P T M N o s p a p y u') := by
  have l1 : P.length < 2 ^ 62 := by omega
  have no : EvB pw K fL 40 [] (sX D P T M N (rest0 T) o s p a p p u) .next (sN D P T M N o s p a p p u) := EvB.nil.wk (.cons (wkCell .top) (.cons .refl (.cons .refl (.cons .refl (wk_bas (.cons .refl (.cons wkJunk .nil))))))) .refl rfl
  unfold endY
  by_cases h : p < P.length
  · have hb : InB P.length p := ⟨by omega, by omega, by omega⟩
    by_cases h2 : P.getD p 0 = 42
    · obtain ⟨y, u', h3, h4, h5, h6, h7⟩ := s16b D P T M N (rest0 T) o s a p p p u hu hP hT (rest0_len T) h
      refine ⟨y, u', h3, by rw [if_pos ⟨h, h2⟩]; exact ⟨h4, h5, h6⟩, ?_⟩
      rw [i16st]
      exact .ite (b := true) (LT_ok (i16t D P T M N (rest0 T) o s p a p p u) (gcons l1 (gcons (decide_eq_true (by omega)) (gcons hb (gcons (beq_iff_eq.mpr h2) g0))))) (h7.more (by decide))
    · refine ⟨p, u, hu, by rw [if_neg fun q => h2 q.2], ?_⟩
      rw [i16st]
      exact .ite (b := false) (LT_ok (i16f D P T M N (rest0 T) o s p a p p u) (gcons l1 (gcons (decide_eq_true (by omega)) (gcons hb (gcons (beq_eq_false_iff_ne.mpr h2) g0))))) no
  · refine ⟨p, u, hu, by rw [if_neg fun q => h q.1], ?_⟩
    rw [i16st]
    exact .ite (b := false) (LT_ok (i16g D P T M N (rest0 T) o s p a p p u) (gcons l1 (gcons (decide_eq_false (by omega)) g0))) no
/-! plain[16] -/
noncomputable abbrev bas2 (D P T M N N' : List Int) (o : Int) (l : List AO) : List AO := .il D :: .il P :: .il T :: .il (rawO o) :: .dict (rawD o) :: .il M :: .il N :: .il N' :: l
noncomputable abbrev sO (D P T M N N' : List Int) (o s p a x y : Int) (u : Option AV) (l : List AO) (ls : List (Option AV)) : S := stL (some .top) (some .top) (some (.obj 6)) u (bas2 D P T M N N' o (.junk :: .junk :: l)) (lsX o s p a x y (none :: ls))
theorem s17k (D P T M N : List Int) (o s p a x y : Int) (u : Option AV) : LS (lst 17) (sN D P T M N o s p a x y u) [] = some (.next, sO D P T M N (N.set (16 : Int).toNat a) o s p a x y u [] [], [], [InB N.length 16]) := by kernel_rfl
theorem s17 (D P T M N : List Int) (o s p a x y : Int) (u : Option AV) (hN : 16 < N.length) : EvS pw K fL 40 (lst 17) (sN D P T M N o s p a x y u) .next (sO D P T M N (N.set (16 : Int).toNat a) o s p a x y u [] []) := LS_ok (s17k D P T M N o s p a x y u) (gcons ⟨by omega, by omega, by omega⟩ g0)
end Mine
/-! text L18 -/
open PySem PySem.W PyProof.Rows PySem.Spec PySem.Calls
set_option Elab.async false
set_option maxRecDepth 100000
set_option maxHeartbeats 0
namespace Mine
/-! MPU(memory=memory, pc=origin) -/
noncomputable def isInit : Stmt → Bool
  | .FunctionDef name _ _ _ _ _ _ _ _ _ => name == Str.ofString "__init__"
  | _ => false
noncomputable def initF : Fn := match fnOfDef 30 ((clsBody.drop 15).headD (.Pass default)) with
  | some F => { F with dV := .ref 29 }
  | none => nilFn
theorem init_at (P : Params) : (K P).lookup 36 = some initF.obj := by kernel_rfl
theorem init_a : initF.a = 36 := by kernel_rfl
theorem init_xs : initF.xs = [Str.ofString "self", Str.ofString "memory", Str.ofString "pc"] := by kernel_rfl
theorem init_code (P : Params) : codeIn (K P) initF.cd initF.qual = true := by kernel_rfl
theorem init_sc : scOk initF = true := by kernel_rfl
noncomputable def initMk (vs : List Value) : Args := ⟨vs.take 1, [Str.ofString "memory", Str.ofString "pc"].zip (vs.drop 1)⟩
theorem init_at29 (P : Params) : (K P).lookup 29 = some (⟨.type "tuple", none, .seq [.none, .int 0 238].toArray 0, #[]⟩ : Obj) := by kernel_rfl
theorem init_bind (P : Params) (v w x : Value) (s : Shared) (X : (K P).In s.heap) : BindsTo s initF.data (initMk [v, w, x]) (initF.xs.zip [v, w, x]) := by
  refine binds_K X (T := 29) (items := [.none, .int 0 238].toArray) (n := 0) rfl (init_at29 P) rfl rfl ?_
  kernel_rfl
theorem len3 {α : Type} {vs : List α} (h : vs.length = 3) : ∃ v w x, vs = [v, w, x] := by
  rcases vs with _ | ⟨v, _ | ⟨w, _ | ⟨x, _ | ⟨y, vs⟩⟩⟩⟩
  · cases h
  · cases h
  · cases h
  · exact ⟨v, w, x, rfl⟩
  · simp at h
theorem init_fn : FnA K initF initMk := by
  have s := init_sc
  unfold scOk at s
  simp only [Bool.and_eq_true, Bool.not_eq_true', beq_iff_eq, decide_eq_true_eq, List.all_eq_true, bne_iff_ne] at s
  obtain ⟨⟨⟨⟨⟨⟨s1, s2⟩, s3⟩, s4⟩, s5⟩, s6⟩, s7⟩ := s
  refine ⟨fun P => init_a ▸ init_at P, init_code, fun P vs st hv X => ?_, s1, s6, s2, s3, s4, s5⟩
  rw [init_xs] at hv
  obtain ⟨v, w, x, rfl⟩ := len3 hv
  exact init_bind P v w x st X
end Mine
/-! text L19 -/
open PySem PySem.W PyProof.Rows PySem.Spec PySem.Calls
set_option Elab.async false
set_option maxRecDepth 100000
set_option maxHeartbeats 0
namespace Mine
/-! the new machine -/
noncomputable def atsI (i : Nat) (o : Int) : List (Str × AV) := [(Str.ofString "name", .str (Str.ofString "6502")), (Str.ofString "byteMask", .cint 255), (Str.ofString "addrMask", .cint 65535), (Str.ofString "addrHighMask", .cint 65280), (Str.ofString "spBase", .cint 256), (Str.ofString "excycles", .cint 0), (Str.ofString "addcycles", .cb false), (Str.ofString "processorCycles", .cint 0), (Str.ofString "memory", .obj i), (Str.ofString "start_pc", .int o), (Str.ofString "pc", .int o), (Str.ofString "sp", .cint 255), (Str.ofString "a", .cint 0), (Str.ofString "x", .cint 0), (Str.ofString "y", .cint 0), (Str.ofString "p", .cint 48)]
noncomputable abbrev fI : Fx := ⟨initF.cs, true⟩
noncomputable def gI : List Prop := [(0 : Int) ≤ 8, (8 : Int) ≤ 1000000, (1 : Int).natAbs < 2 ^ 64, (0 : Int) ≤ 16, (16 : Int) ≤ 1000000, (1 : Int).natAbs < 2 ^ 64, (0 : Int) ≤ 8, (8 : Int) ≤ 1000000, (255 : Int).natAbs < 2 ^ 64, (0 : Int) ≤ 8, (8 : Int) ≤ 1000000, (1 : Int).natAbs < 2 ^ 64]
theorem gI_ok : ∀ p ∈ gI, p := by
  unfold gI
  exact gcons (by decide) (gcons (by decide) (gcons (by decide) (gcons (by decide) (gcons (by decide) (gcons (by decide) (gcons (by decide) (gcons (by decide) (gcons (by decide) (gcons (by decide) (gcons (by decide) (gcons (by decide) g0)))))))))))
theorem init_ev (N : List Int) (o : Int) : lawB pw K 30 U4 (LE 29) fI initF.body ⟨[.il N, .attrs [], .inst 1428 1], locs0 initF.xs [.obj 2, .obj 0, .int o] initF.rest, []⟩ [] = some (.next, ⟨[.il N, .attrs (atsI 0 o), .inst 1428 1], locs0 initF.xs [.obj 2, .obj 0, .int o] initF.rest, []⟩, [], gI) := by kernel_rfl
theorem init_call (N : List Int) (o : Int) : CallA pw K initMk 30 36 [.obj 2, .obj 0, .int o] [.il N, .attrs [], .inst 1428 1] (.val .none) [.il N, .attrs (atsI 0 o), .inst 1428 1] := by
  have h := callA_of (args := [.obj 2, .obj 0, .int o]) init_fn (by rw [init_xs]; rfl) (lawB_ok U4_ok (lawN_ok U4_ok 29) (init_ev N o) gI_ok) rfl rfl
  rw [init_a] at h
  exact h
end Mine
/-! text L20 -/
open PySem PySem.W PyProof.Rows PySem.Spec PySem.Calls
set_option Elab.async false
set_option maxRecDepth 100000
set_option maxHeartbeats 0
namespace Mine
/-! the statement -/
noncomputable def callKs : Expr → List Keyword
  | .Call _ _ ks _ => ks
  | _ => []
noncomputable def kwE (i : Nat) (l : List Keyword) : Expr := match l.drop i with
  | ⟨_, e, _⟩ :: _ => e
  | [] => .Constant .none 0 default
noncomputable def kwP (i : Nat) (l : List Keyword) : Pos := match l.drop i with
  | ⟨_, _, p⟩ :: _ => p
  | [] => default
theorem s18v : valE (lst 18) = .Call (callF (valE (lst 18))) [] [⟨some (Str.ofString "memory"), kwE 0 (callKs (valE (lst 18))), kwP 0 (callKs (valE (lst 18)))⟩, ⟨some (Str.ofString "pc"), kwE 1 (callKs (valE (lst 18))), kwP 1 (callKs (valE (lst 18)))⟩] (callP (valE (lst 18))) := by kernel_rfl
section
variable (D P T M N N' : List Int) (o s p a x y : Int) (u : Option AV)
theorem s18f : LXd 29 fL (callF (valE (lst 18))) (sO D P T M N N' o s p a x y u [] []) [] = some (.val (.ref 1428), sO D P T M N N' o s p a x y u [] [], [], []) := by kernel_rfl
theorem s18m : LXd 29 fL (kwE 0 (callKs (valE (lst 18)))) (sO D P T M N N' o s p a x y u [] []) [] = some (.obj 10, sO D P T M N N' o s p a x y u [] [], [], []) := by kernel_rfl
theorem s18p : LXd 29 fL (kwE 1 (callKs (valE (lst 18)))) (sO D P T M N N' o s p a x y u [] []) [] = some (.int o, sO D P T M N N' o s p a x y u [] [], [], []) := by kernel_rfl
theorem s18o : frameO [10, 14, 15] ((sO D P T M N N' o s p a x y u [] []).objs ++ [.attrs [], .inst 1428 14]) [.il N, .attrs (atsI 0 o), .inst 1428 1] = (sO D P T M N N' o s p a x y u [.attrs (atsI 10 o), .inst 1428 14] []).objs := by kernel_rfl
end
theorem s18keep (P : Params) : keepIn (K P) (.ref 1428) = true := by kernel_rfl
theorem s18makes (P : Params) : makesIn (K P) 1428 = true := by kernel_rfl
theorem s18find (P : Params) : findIn (K P) (.ref 1428) "__init__" = some (some (.ref 36)) := by kernel_rfl
theorem s18ty (P : Params) : typeIn (K P) (.ref 36) = some (.type "function") := by kernel_rfl
theorem s18pf : plainFun (callF (valE (lst 18))) = true := by kernel_rfl
theorem call_eqK {fe : Expr} {kws : List Keyword} {pos : Pos} (h : plainFun fe = true) (env : Env) : eval (.Call fe [] kws pos) env = (do callWith pos (← eval fe env) [] (backTo pos (starEach [] env)) (backToKw pos (keywordEach kws env))) := by
  cases fe <;> first | rfl | cases h
theorem CallA.frm {mk : List Value → Args} {d : Nat} {fa : Addr} {args argsB : List AV} {objs objsS objsS' objs' : List AO} {x x' : AV} {sel : List Nat} (h : CallA pw K mk d fa args objsS x objsS') (hs : selOk 0 objs.length sel = true) (hren : renOs sel objs sel = some objsS) (hargs : renVs sel argsB = some args) (hlen : Nat.ble sel.length objsS'.length = true)
    (hx : embV (back sel objs.length) x = x') (ho : frameO sel objs objsS' = objs') : CallA pw K mk d fa argsB objs x' objs' := by
  obtain ⟨h1, _, h3⟩ := selOk_of hs
  have := CallA.frame h h1 h3 hren hargs (Nat.le_of_ble_eq_true hlen)
  rw [hx] at this
  unfold frameO at ho
  rw [ho] at this
  exact this
theorem s18c (D P T M N N' : List Int) (o s p a x y : Int) (u : Option AV) : CallA pw K initMk 30 36 [.obj 15, .obj 10, .int o] ((sO D P T M N N' o s p a x y u [] []).objs ++ [.attrs [], .inst 1428 14]) (.val .none) (sO D P T M N N' o s p a x y u [.attrs (atsI 10 o), .inst 1428 14] []).objs :=
  (init_call N o).frm (sel := [10, 14, 15]) rfl rfl rfl rfl rfl (s18o D P T M N N' o s p a x y u)
theorem s18e (D P T M N N' : List Int) (o s p a x y : Int) (u : Option AV) : EvE pw K fL 39 (valE (lst 18)) (sO D P T M N N' o s p a x y u [] []) (.obj 15) (sO D P T M N N' o s p a x y u [.attrs (atsI 10 o), .inst 1428 14] []) := by
  rw [s18v]
  exact .make (d := 30) rfl (LXd_ok (s18f D P T M N N' o s p a x y u) g0) (.cons (LXd_ok (s18m D P T M N N' o s p a x y u) g0) (.cons (LXd_ok (s18p D P T M N N' o s p a x y u) g0) .nil)) (call_eqK s18pf) s18keep s18makes s18find s18ty (s18c D P T M N N' o s p a x y u) (by decide)
theorem s18k (D P T M N N' : List Int) (o s p a x y : Int) (u : Option AV) : LS (lst 18) (sO D P T M N N' o s p a x y u [] []) [.e (.obj 15) (sO D P T M N N' o s p a x y u [.attrs (atsI 10 o), .inst 1428 14] [])] = some (.next, sO D P T M N N' o s p a x y u [.attrs (atsI 10 o), .inst 1428 14] [some (.obj 15)], [], [EvE pw K fL 39 (valE (lst 18)) (sO D P T M N N' o s p a x y u [] []) (.obj 15) (sO D P T M N N' o s p a x y u [.attrs (atsI 10 o), .inst 1428 14] [])]) := by kernel_rfl
theorem s18 (D P T M N N' : List Int) (o s p a x y : Int) (u : Option AV) : EvS pw K fL 40 (lst 18) (sO D P T M N N' o s p a x y u [] []) .next (sO D P T M N N' o s p a x y u [.attrs (atsI 10 o), .inst 1428 14] [some (.obj 15)]) := LS_ok (s18k D P T M N N' o s p a x y u) (gcons (s18e D P T M N N' o s p a x y u) g0)
end Mine
/-! text L21 -/
open PySem PySem.W PyProof.Rows PySem.Spec PySem.Calls
set_option Elab.async false
set_option maxRecDepth 100000
set_option maxHeartbeats 0
namespace Mine
/-! rounds -/
noncomputable def atsM (m : M) (st : Int) : List (Str × AV) := [(Str.ofString "name", .str (Str.ofString "6502")), (Str.ofString "byteMask", .cint 255), (Str.ofString "addrMask", .cint 65535), (Str.ofString "addrHighMask", .cint 65280), (Str.ofString "spBase", .cint 256), (Str.ofString "excycles", .any), (Str.ofString "addcycles", .top), (Str.ofString "processorCycles", .any), (Str.ofString "memory", .obj 10), (Str.ofString "start_pc", .int st), (Str.ofString "pc", .int m.pc), (Str.ofString "sp", .int m.sp), (Str.ofString "a", .int m.a), (Str.ofString "x", .int m.x), (Str.ofString "y", .int m.y), (Str.ofString "p", .int m.p)]
noncomputable abbrev sQ (D P T M₀ N' : List Int) (o s p a x y : Int) (u : Option AV) (m : M) (r : Int) : S := stL (some .top) (some .top) (some (.obj 6)) u (.il D :: .il P :: .il T :: .il (rawO o) :: .dict (rawD o) :: .il M₀ :: .il m.mem :: .il N' :: .junk :: .junk :: .attrs (atsM m o) :: .inst 1428 14 :: []) (lsX o s p a x y [none, some (.obj 15), some (.int r)])
theorem s19k (D P T M N N' : List Int) (o s p a x y : Int) (u : Option AV) : LS (lst 19) (sO D P T M N N' o s p a x y u [.attrs (atsI 10 o), .inst 1428 14] [some (.obj 15)]) [] = some (.next, sO D P T M N N' o s p a x y u [.attrs (atsI 10 o), .inst 1428 14] [some (.obj 15), some (.cint 0)], [], []) := by kernel_rfl
theorem wk_ats (N : List Int) (o : Int) : WkO (.attrs (atsI 10 o)) (.attrs (atsM ⟨0, 0, 0, 255, 48, o, N⟩ o)) :=
  WkEs.attrs (.cons .refl (.cons .refl (.cons .refl (.cons .refl (.cons .refl (.cons .anyC (.cons .top (.cons .anyC (.cons .refl (.cons .refl (.cons .refl (.cons .intC (.cons .intC (.cons .intC (.cons .intC (.cons .intC .nil))))))))))))))))
theorem s19 (D P T M N N' : List Int) (o s p a x y : Int) (u : Option AV) : EvS pw K fL 40 (lst 19) (sO D P T M N N' o s p a x y u [.attrs (atsI 10 o), .inst 1428 14] [some (.obj 15)]) .next (sQ D P T M N' o s p a x y u ⟨0, 0, 0, 255, 48, o, N⟩ 0) :=
  (LS_ok (s19k D P T M N N' o s p a x y u) g0).wk (wk_cells (.cons .refl (.cons .refl (.cons .refl (.cons .refl (.cons .refl (.cons .refl (.cons .refl (.cons .refl (.cons .refl (.cons .refl (.cons (wk_ats N o) .refl)))))))))))) (ln_wk (lsX_w (.none (.some .refl (.some .intC .nil))))) rfl
/-! a step in the law's state -/
section
variable (D P T M₀ N' : List Int) (o s p a x y : Int) (u : Option AV) (m m' : M) (r : Int)
theorem stp_ren : renOs [10, 15, 14] (sQ D P T M₀ N' o s p a x y u m r).objs [10, 15, 14] = some (objM m o) := by kernel_rfl
theorem stp_out : frameO [10, 15, 14] (sQ D P T M₀ N' o s p a x y u m r).objs (objM m' o) = (sQ D P T M₀ N' o s p a x y u m' r).objs := by kernel_rfl
end
theorem stp_law (D P T M₀ N' : List Int) (o s p a x y : Int) (u : Option AV) (m m' : M) (r : Int) (h : Stp m m') : CallT pw K 25 43 [.obj 15] (sQ D P T M₀ N' o s p a x y u m r).objs (.obj 15) (sQ D P T M₀ N' o s p a x y u m' r).objs :=
  (h o).frm (sel := [10, 15, 14]) rfl (stp_ren D P T M₀ N' o s p a x y u m r) rfl rfl rfl (stp_out D P T M₀ N' o s p a x y u m m' r)
end Mine
/-! text L22 -/
open PySem PySem.W PyProof.Rows PySem.Spec PySem.Calls
set_option Elab.async false
set_option maxRecDepth 100000
set_option maxHeartbeats 0
namespace Mine
/-! the turn of the loop of steps -/
noncomputable def st20 (i : Nat) : Stmt := stA (bodyOf (lst 20)) i
noncomputable def exE : Stmt → Expr
  | .Expr e _ => e
  | _ => .Constant .none 0 default
noncomputable def exP : Stmt → Pos
  | .Expr _ p => p
  | _ => default
noncomputable def atO : Expr → Expr
  | .Call (.Attribute o _ _) _ _ _ => o
  | e => e
noncomputable def atP : Expr → Pos
  | .Call (.Attribute _ _ p) _ _ _ => p
  | _ => default
theorem q20st : st20 0 = .Expr (.Call (.Attribute (.Name (Str.ofString "mpu") (psOf (atO (exE (st20 0))))) (Str.ofString "step") (atP (exE (st20 0)))) [] [] (callP (exE (st20 0)))) (exP (st20 0)) := by kernel_rfl
theorem q20b : bodyOf (lst 20) = [st20 0, st20 1] := by kernel_rfl
theorem q20line : ((atP (exE (st20 0))).endLine == (callP (exE (st20 0))).line) = true := by kernel_rfl
theorem q20n (D P T M₀ N' : List Int) (o s p a x y : Int) (u : Option AV) (m : M) (r : Int) : LX (atO (exE (st20 0))) (sQ D P T M₀ N' o s p a x y u m r) [] = some (.obj 15, sQ D P T M₀ N' o s p a x y u m r, [], []) := by kernel_rfl
theorem q20a (D P T M₀ N' : List Int) (o s p a x y : Int) (u : Option AV) (m : M) (r : Int) : LS (st20 1) (sQ D P T M₀ N' o s p a x y u m r) [] = some (.next, sQ D P T M₀ N' o s p a x y u m (r + 1), [], []) := by kernel_rfl
theorem q20m (P : Params) : methName (K P) 1428 (Str.ofString "step") 43 = true := by kernel_rfl
theorem q20k (P : Params) : keepIn (K P) (.ref 43) = true := by kernel_rfl
theorem q20l (m : M) (st : Int) : look (Str.ofString "step") (atsM m st) = none := by kernel_rfl
theorem q20o : atO (exE (st20 0)) = .Name (Str.ofString "mpu") (psOf (atO (exE (st20 0)))) := by kernel_rfl
theorem q20s (D P T M₀ N' : List Int) (o s p a x y : Int) (u : Option AV) (m m' : M) (r : Int) (h : Stp m m') : EvS pw K fL 40 (st20 0) (sQ D P T M₀ N' o s p a x y u m r) .next (sQ D P T M₀ N' o s p a x y u m' r) := by
  have e1 := LX_ok (q20n D P T M₀ N' o s p a x y u m r) g0
  rw [q20o] at e1
  rw [q20st]
  have hn : ∀ e ∈ ([] : List Expr), notStar e = true := fun _ h => nomatch h
  exact .expr (.callMeth (es := []) rfl e1 hn _ (fun env => meth_eq (es := []) hn (by decide) q20line) rfl rfl (q20l m o) q20m .nil q20k ((stp_law D P T M₀ N' o s p a x y u m m' r h).more (by decide))) fun _ => swaps_plain rfl
theorem q20 (D P T M₀ N' : List Int) (o s p a x y : Int) (u : Option AV) (m m' : M) (r : Int) (h : Stp m m') : EvB pw K fL 40 (bodyOf (lst 20)) (sQ D P T M₀ N' o s p a x y u m r) .next (sQ D P T M₀ N' o s p a x y u m' (r + 1)) := by
  rw [q20b]
  exact .cons (q20s D P T M₀ N' o s p a x y u m m' r h) (.cons (LS_ok (q20a D P T M₀ N' o s p a x y u m' r) g0) .nil)
end Mine
/-! text L23 -/
open PySem PySem.W PyProof.Rows PySem.Spec PySem.Calls
set_option Elab.async false
set_option maxRecDepth 100000
set_option maxHeartbeats 0
namespace Mine
/-! the loop of steps -/
noncomputable def stopO (o : Int) : Int := ((((((((((((((((((((((((((((((((((((((((((((o + 2) + 2) + 3) + 2) + 1) + 2) + 3) + 3) + 2) + 2) + 2) + 2) + 2) + 3) + 2) + 1) + 1) + 3) + 3) + 2) + 1) + 1) + 3) + 1) + 1) + 1) + 1) + 1) + 3) + 1) + 1) + 1) + 1) + 2) + 3) + 2) + 1) + 3) + 3) + 2) + 1) + 1) + 1) + 1)
theorem stopO_eq (o : Int) : stopO o = o + 80 := by unfold stopO; omega
section
variable (D P T M₀ N' : List Int) (o s p a x y : Int) (u : Option AV) (m : M) (r : Int)
theorem l20t : LT (testOf (lst 20)) (sQ D P T M₀ N' o s p a x y u m r) [.b true, .b true] = some (true, sQ D P T M₀ N' o s p a x y u m r, [], [(m.pc != stopO o) = true, decide (r < 4000) = true]) := by kernel_rfl
theorem l20f : LT (testOf (lst 20)) (sQ D P T M₀ N' o s p a x y u m r) [.b false] = some (false, sQ D P T M₀ N' o s p a x y u m r, [], [(m.pc != stopO o) = false]) := by kernel_rfl
end
/-- the machine runs n steps, none of them at the place e, and comes to m' -/
inductive Run (e : Int) : Nat → M → M → Prop
  | nil {m} : Run e 0 m m
  | cons {n m m₁ m'} : Stp m m₁ → m.pc ≠ e → Run e n m₁ m' → Run e (n + 1) m m'
theorem Run.app {e : Int} {n k : Nat} {a b c : M} (h : Run e n a b) (g : Run e k b c) : Run e (k + n) a c := by
  induction h with
  | nil => exact g
  | cons s q _ ih => exact .cons s q (ih g)
theorem l20w (D P T M₀ N' : List Int) (o s p a x y : Int) (u : Option AV) : ∀ (n : Nat) (m m' : M) (r : Nat), Run (stopO o) n m m' → m'.pc = stopO o → r + n ≤ 4000 → While pw K fL 40 (testOf (lst 20)) (bodyOf (lst 20)) n (sQ D P T M₀ N' o s p a x y u m r) .next (sQ D P T M₀ N' o s p a x y u m' ((r + n : Nat) : Int))
  | _, m, _, r, .nil, hp, _ => .done (LT_ok (l20f D P T M₀ N' o s p a x y u m r) (gcons (by rw [hp]; exact bne_self_eq_false _) g0))
  | n + 1, m, m', r, .cons (m₁ := m₁) h q g, hp, hr => by
    have ih := l20w D P T M₀ N' o s p a x y u n m₁ m' (r + 1) g hp (by omega)
    rw [show r + 1 + n = r + (n + 1) by omega] at ih
    exact .turn (LT_ok (l20t D P T M₀ N' o s p a x y u m r) (gcons (bne_iff_ne.mpr q) (gcons (decide_eq_true (by omega)) g0))) (q20 D P T M₀ N' o s p a x y u m m₁ r h) (.inl rfl) ih
theorem l20st : lst 20 = .While (testOf (lst 20)) (bodyOf (lst 20)) [] (posOfS (lst 20)) := by kernel_rfl
theorem s20 (D P T M₀ N' : List Int) (o s p a x y : Int) (u : Option AV) (n : Nat) (m m' : M) (h : Run (stopO o) n m m') (hp : m'.pc = stopO o) (hn : n ≤ 4000) : EvS pw K fL 40 (lst 20) (sQ D P T M₀ N' o s p a x y u m 0) .next (sQ D P T M₀ N' o s p a x y u m' n) := by
  have w := l20w D P T M₀ N' o s p a x y u n m m' 0 h hp (by omega)
  rw [Nat.zero_add] at w
  rw [l20st]
  exact .while w
end Mine
/-! text L24 -/
open PySem PySem.W PyProof.Rows PySem.Spec PySem.Calls
set_option Elab.async false
set_option maxRecDepth 100000
set_option maxHeartbeats 0
namespace Mine
/-! seen -/
noncomputable abbrev sR (D P T M₀ N' : List Int) (o s p a x y : Int) (u : Option AV) (m : M) (r : Int) (l : List AO) : S := stL (some .top) (some .top) (some (.obj 6)) u (.il D :: .il P :: .il T :: .il (rawO o) :: .dict (rawD o) :: .il M₀ :: .il m.mem :: .il N' :: .junk :: .junk :: .attrs (atsM m o) :: .inst 1428 14 :: l) (lsX o s p a x y [none, some (.obj 15), some (.int r), some (.obj 16)])
theorem s21k (D P T M₀ N' : List Int) (o s p a x y : Int) (u : Option AV) (m : M) (r : Int) : LS (lst 21) (sQ D P T M₀ N' o s p a x y u m r) [] = some (.next, sR D P T M₀ N' o s p a x y u m r [.list [.int m.a, .int m.x, .int m.y, .int m.sp, .int m.p, .int m.pc]], [], []) := by kernel_rfl
noncomputable def seen (m : M) : List Int := [m.a, m.x, m.y, m.sp, m.p, m.pc]
theorem s21 (D P T M₀ N' : List Int) (o s p a x y : Int) (u : Option AV) (m : M) (r : Int) : EvS pw K fL 40 (lst 21) (sQ D P T M₀ N' o s p a x y u m r) .next (sR D P T M₀ N' o s p a x y u m r [.il (seen m)]) :=
  (LS_ok (s21k D P T M₀ N' o s p a x y u m r) g0).wk (wk_cells (.cons .refl (.cons .refl (.cons .refl (.cons .refl (.cons .refl (.cons .refl (.cons .refl (.cons .refl (.cons .refl (.cons .refl (.cons .refl (.cons .refl (.cons (wkInts (l := seen m)) .nil)))))))))))))) .refl rfl
end Mine
/-! text L25 -/
open PySem PySem.W PyProof.Rows PySem.Spec PySem.Calls
set_option Elab.async false
set_option maxRecDepth 100000
set_option maxHeartbeats 0
namespace Mine
/-! no value is a bool -/
noncomputable def cmpLe : Expr → Expr
  | .Compare l _ _ _ => l
  | e => e
noncomputable def p22 : CP := cpOf (cmpLe (testOf (lst 22)))
theorem p22e : cmpLe (testOf (lst 22)) = p22.e := by kernel_rfl
noncomputable def ct22 : Expr := match p22.ifs with
  | t :: _ => t
  | [] => p22.elt
theorem p22ifs : p22.ifs = [ct22] := by kernel_rfl
theorem p22it : plainIter p22.iter = true := by kernel_rfl
theorem p22c (σ : S) (h : σ.cells = cs4) : compOkB fL p22.scope p22.x [] σ.cells = true := by rw [h]; kernel_rfl
theorem s22i (D P T M₀ N' : List Int) (o s p a x y : Int) (u : Option AV) (m : M) (r : Int) : LXd 37 fL p22.iter (sR D P T M₀ N' o s p a x y u m r [.il (seen m)]) [] = some (.obj 16, sR D P T M₀ N' o s p a x y u m r [.il (seen m)], [], []) := by kernel_rfl
theorem s22t (ob : List AO) (k : Int) : LTd 37 (gOf fL p22.scope) ct22 (sT ob p22.x k []) [] = some (false, sT ob p22.x k [], [], []) := by kernel_rfl
theorem s22e (D P T M₀ N' : List Int) (o s p a x y : Int) (u : Option AV) (m : M) (r : Int) : EvE pw K fL 38 (cmpLe (testOf (lst 22))) (sR D P T M₀ N' o s p a x y u m r [.il (seen m)]) (.obj 17) (sR D P T M₀ N' o s p a x y u m r [.il (seen m), .il []]) := by
  rw [p22e]
  exact .compLI (i := 16) (l := seen m) (F := fun _ => none) (cs := []) (LXd_ok (s22i D P T M₀ N' o s p a x y u m r) g0) rfl (p22c _ rfl) rfl (show 6 ≤ 60000 by decide) (fun k _ => turn_no p22ifs (s22t _ k) g0) p22it
theorem s22x (D P T M₀ N' : List Int) (o s p a x y : Int) (u : Option AV) (m : M) (r : Int) : LS (lst 22) (sR D P T M₀ N' o s p a x y u m r [.il (seen m)]) [.e (.obj 17) (sR D P T M₀ N' o s p a x y u m r [.il (seen m), .il []]), .b false] = some (.next, sR D P T M₀ N' o s p a x y u m r [.il (seen m), .il [], .list []], [], [EvE pw K fL 38 (cmpLe (testOf (lst 22))) (sR D P T M₀ N' o s p a x y u m r [.il (seen m)]) (.obj 17) (sR D P T M₀ N' o s p a x y u m r [.il (seen m), .il []]), (!decide (([] : List Int) = [])) = false]) := by kernel_rfl
theorem s22 (D P T M₀ N' : List Int) (o s p a x y : Int) (u : Option AV) (m : M) (r : Int) : EvS pw K fL 40 (lst 22) (sR D P T M₀ N' o s p a x y u m r [.il (seen m)]) .next (sR D P T M₀ N' o s p a x y u m r [.il (seen m), .il [], .list []]) :=
  LS_ok (s22x D P T M₀ N' o s p a x y u m r) (gcons (s22e D P T M₀ N' o s p a x y u m r) (gcons (by decide) g0))
end Mine
/-! text L26 -/
open PySem PySem.W PyProof.Rows PySem.Spec PySem.Calls
set_option Elab.async false
set_option maxRecDepth 100000
set_option maxHeartbeats 0
namespace Mine
/-! what is given back -/
noncomputable def retE : Stmt → Expr
  | .Return (some e) _ => e
  | _ => .Constant .none 0 default
noncomputable def retP : Stmt → Pos
  | .Return _ p => p
  | _ => default
noncomputable def boolEs : Expr → List Expr
  | .BoolOp _ es _ => es
  | _ => []
noncomputable def boolP : Expr → Pos
  | .BoolOp _ _ p => p
  | _ => default
noncomputable def rE (i : Nat) : Expr := match (boolEs (retE (lst 23))).drop i with
  | e :: _ => e
  | [] => .Constant .none 0 default
theorem s23st : lst 23 = .Return (some (.BoolOp .And [rE 0, rE 1, rE 2] (boolP (retE (lst 23))))) (retP (lst 23)) := by kernel_rfl
noncomputable def expd (o a x y : Int) (b : Bool) : List Int := [a, x, y, 255, if b then 48 else 50, stopO o]
section
variable (D P T M₀ N' : List Int) (o s p a x y : Int) (u : Option AV) (m : M) (r : Int) (l : List AO)
noncomputable abbrev sS : S := sR D P T M₀ N' o s p a x y u m r (.il (seen m) :: .junk :: .junk :: l)
theorem r0t : LXd 38 fL (rE 0) (sS D P T M₀ N' o s p a x y u m r []) [.b true] = some (.bool (decide (seen m = expd o a x y true)), sS D P T M₀ N' o s p a x y u m r [.list [.int a, .int x, .int y, .cint 255, .cint 48, .int (stopO o)]], [], [(a == 1) = true]) := by kernel_rfl
theorem r0f : LXd 38 fL (rE 0) (sS D P T M₀ N' o s p a x y u m r []) [.b false] = some (.bool (decide (seen m = expd o a x y false)), sS D P T M₀ N' o s p a x y u m r [.list [.int a, .int x, .int y, .cint 255, .cint 50, .int (stopO o)]], [], [(a == 1) = false]) := by kernel_rfl
theorem rt1 (e : AO) : LXd 38 fL (rE 1) (sS D P T M₀ N' o s p a x y u m r [e]) [] = some (.bool (decide (m.mem.take (502 : Int).toNat = N'.take (502 : Int).toNat)), sS D P T M₀ N' o s p a x y u m r [e, .il (m.mem.take (502 : Int).toNat), .il (N'.take (502 : Int).toNat)], [], [m.mem.length ≤ 60000, (0 : Int) ≤ 502, N'.length ≤ 60000, (0 : Int) ≤ 502]) := by kernel_rfl
theorem rt2 (e e' e'' : AO) : LXd 38 fL (rE 2) (sS D P T M₀ N' o s p a x y u m r [e, e', e'']) [] = some (.bool (decide (m.mem.drop (512 : Int).toNat = N'.drop (512 : Int).toNat)), sS D P T M₀ N' o s p a x y u m r [e, e', e'', .il (m.mem.drop (512 : Int).toNat), .il (N'.drop (512 : Int).toNat)], [], [m.mem.length ≤ 60000, (0 : Int) ≤ 512, N'.length ≤ 60000, (0 : Int) ≤ 512]) := by kernel_rfl
end
end Mine
/-! text L27 -/
open PySem PySem.W PyProof.Rows PySem.Spec PySem.Calls
set_option Elab.async false
set_option maxRecDepth 100000
set_option maxHeartbeats 0
namespace Mine
/-- what must be true of the end -/
structure EndOk (o a x y : Int) (m : M) (N' : List Int) : Prop where
  seen : seen m = expd o a x y (a == 1)
  low : m.mem.take 502 = N'.take 502
  high : m.mem.drop 512 = N'.drop 512
  len : m.mem.length ≤ 60000
  len' : N'.length ≤ 60000
theorem s22w (D P T M₀ N' : List Int) (o s p a x y : Int) (u : Option AV) (m : M) (r : Int) : EvS pw K fL 40 (lst 22) (sR D P T M₀ N' o s p a x y u m r [.il (seen m)]) .next (sS D P T M₀ N' o s p a x y u m r []) :=
  (s22 D P T M₀ N' o s p a x y u m r).wk (wk_cells (.cons .refl (.cons .refl (.cons .refl (.cons .refl (.cons .refl (.cons .refl (.cons .refl (.cons .refl (.cons .refl (.cons .refl (.cons .refl (.cons .refl (.cons .refl (.cons wkJunk (.cons wkJunk .nil)))))))))))))))) .refl rfl
theorem s23 (D P T M₀ N' : List Int) (o s p a x y : Int) (u : Option AV) (m : M) (r : Int) (h : EndOk o a x y m N') : ∃ e : AO, EvS pw K fL 39 (lst 23) (sS D P T M₀ N' o s p a x y u m r []) (.ret (.bool true)) (sS D P T M₀ N' o s p a x y u m r [e, .il (m.mem.take (502 : Int).toNat), .il (N'.take (502 : Int).toNat), .il (m.mem.drop (512 : Int).toNat), .il (N'.drop (512 : Int).toNat)]) := by
  have h0 : ∃ e : AO, EvE pw K fL 39 (rE 0) (sS D P T M₀ N' o s p a x y u m r []) (.bool true) (sS D P T M₀ N' o s p a x y u m r [e]) := by
    have q := h.seen
    cases e : (a == 1) with
    | true =>
      rw [e] at q
      have := LXd_ok (r0t D P T M₀ N' o s p a x y u m r) (gcons e g0)
      rw [decide_eq_true q] at this
      exact ⟨_, this⟩
    | false =>
      rw [e] at q
      have := LXd_ok (r0f D P T M₀ N' o s p a x y u m r) (gcons e g0)
      rw [decide_eq_true q] at this
      exact ⟨_, this⟩
  obtain ⟨e, h0⟩ := h0
  have h1 := LXd_ok (rt1 D P T M₀ N' o s p a x y u m r e) (gcons h.len (gcons (by decide) (gcons h.len' (gcons (by decide) g0))))
  rw [decide_eq_true (show m.mem.take (502 : Int).toNat = N'.take (502 : Int).toNat from h.low)] at h1
  have h2 := LXd_ok (rt2 D P T M₀ N' o s p a x y u m r e (.il (m.mem.take (502 : Int).toNat)) (.il (N'.take (502 : Int).toNat))) (gcons h.len (gcons (by decide) (gcons h.len' (gcons (by decide) g0))))
  rw [decide_eq_true (show m.mem.drop (512 : Int).toNat = N'.drop (512 : Int).toNat from h.high)] at h2
  refine ⟨e, ?_⟩
  rw [s23st]
  exact .ret (.andC h0 rfl (.andC h1 rfl (.and1 h2)))
end Mine
/-! text P1 -/
open PySem PySem.W PyProof.Rows PySem.Spec PySem.Calls
set_option Elab.async false
set_option maxRecDepth 100000
set_option maxHeartbeats 0
namespace Mine
/-! the machine at the code: each instruction -/
noncomputable def codeO (o : Int) : List Int := [162, 0, 160, 0, 32, (o + 15) % 256, (o + 15) / 256, 169, 0, 42, 133, 16, 76, (o + 80) % 256, (o + 80) / 256, 189, 0, 4, 240, 51, 201, 42, 240, 24, 201, 63, 240, 10, 217, 32, 4, 208, 43, 232, 200, 76, (o + 15) % 256, (o + 15) / 256, 185, 32, 4, 240, 33, 232, 200, 76, (o + 15) % 256, (o + 15) / 256, 138, 72, 152, 72, 232, 32, (o + 15) % 256, (o + 15) / 256, 104, 168, 104, 170, 176, 17, 185, 32, 4, 240, 9, 200, 76, (o + 15) % 256, (o + 15) / 256, 185, 32, 4, 240, 2, 24, 96, 56, 96]
noncomputable def suL : List Int → Int → Int
  | [], o => o
  | n :: l, o => suL l (o + n)
noncomputable def suM : List Int → Int
  | [] => 0
  | n :: l => n + suM l
theorem suL_eq : ∀ (l : List Int) (o : Int), suL l o = o + suM l
  | [], o => (Int.add_zero o).symm
  | n :: l, o => (suL_eq l (o + n)).trans (Int.add_assoc o n (suM l))
theorem cn {a b : Int} {l r : List Int} (h : a = b) (g : l = r) : a :: l = b :: r := by rw [h, g]
theorem fm_of {x y : Int} (h : x = y) : x.fmod 256 = y % 256 := by rw [h, Int.fmod_eq_emod_of_nonneg _ (by decide)]
theorem fd_of {x y : Int} (h : x = y) : x.fdiv 256 = y / 256 := by rw [h, Int.fdiv_eq_ediv_of_nonneg _ (by decide)]
theorem nr_of {x o a k c : Int} (h : x = o + a) (e : (a - k - 2).fmod 256 = c) : (x - o - k - 2).fmod 256 = c := by rw [h, show o + a - o = a by omega]; exact e
theorem sp_match (o : Int) : (((((((o + 2) + 2) + 3) + 2) + 1) + 2) + 3) = o + 15 := (suL_eq [2, 2, 3, 2, 1, 2, 3] o).trans (congrArg (o + ·) (by kernel_rfl))
theorem sp_any (o : Int) : ((((((((((((((((((o + 2) + 2) + 3) + 2) + 1) + 2) + 3) + 3) + 2) + 2) + 2) + 2) + 2) + 3) + 2) + 1) + 1) + 3) = o + 38 := (suL_eq [2, 2, 3, 2, 1, 2, 3, 3, 2, 2, 2, 2, 2, 3, 2, 1, 1, 3] o).trans (congrArg (o + ·) (by kernel_rfl))
theorem sp_star (o : Int) : (((((((((((((((((((((((o + 2) + 2) + 3) + 2) + 1) + 2) + 3) + 3) + 2) + 2) + 2) + 2) + 2) + 3) + 2) + 1) + 1) + 3) + 3) + 2) + 1) + 1) + 3) = o + 48 := (suL_eq [2, 2, 3, 2, 1, 2, 3, 3, 2, 2, 2, 2, 2, 3, 2, 1, 1, 3, 3, 2, 1, 1, 3] o).trans (congrArg (o + ·) (by kernel_rfl))
theorem sp_end (o : Int) : ((((((((((((((((((((((((((((((((((((((o + 2) + 2) + 3) + 2) + 1) + 2) + 3) + 3) + 2) + 2) + 2) + 2) + 2) + 3) + 2) + 1) + 1) + 3) + 3) + 2) + 1) + 1) + 3) + 1) + 1) + 1) + 1) + 1) + 3) + 1) + 1) + 1) + 1) + 2) + 3) + 2) + 1) + 3) = o + 71 := (suL_eq [2, 2, 3, 2, 1, 2, 3, 3, 2, 2, 2, 2, 2, 3, 2, 1, 1, 3, 3, 2, 1, 1, 3, 1, 1, 1, 1, 1, 3, 1, 1, 1, 1, 2, 3, 2, 1, 3] o).trans (congrArg (o + ·) (by kernel_rfl))
theorem sp_fail (o : Int) : ((((((((((((((((((((((((((((((((((((((((o + 2) + 2) + 3) + 2) + 1) + 2) + 3) + 3) + 2) + 2) + 2) + 2) + 2) + 3) + 2) + 1) + 1) + 3) + 3) + 2) + 1) + 1) + 3) + 1) + 1) + 1) + 1) + 1) + 3) + 1) + 1) + 1) + 1) + 2) + 3) + 2) + 1) + 3) + 3) + 2) = o + 76 := (suL_eq [2, 2, 3, 2, 1, 2, 3, 3, 2, 2, 2, 2, 2, 3, 2, 1, 1, 3, 3, 2, 1, 1, 3, 1, 1, 1, 1, 1, 3, 1, 1, 1, 1, 2, 3, 2, 1, 3, 3, 2] o).trans (congrArg (o + ·) (by kernel_rfl))
theorem sp_yes (o : Int) : ((((((((((((((((((((((((((((((((((((((((((o + 2) + 2) + 3) + 2) + 1) + 2) + 3) + 3) + 2) + 2) + 2) + 2) + 2) + 3) + 2) + 1) + 1) + 3) + 3) + 2) + 1) + 1) + 3) + 1) + 1) + 1) + 1) + 1) + 3) + 1) + 1) + 1) + 1) + 2) + 3) + 2) + 1) + 3) + 3) + 2) + 1) + 1) = o + 78 := (suL_eq [2, 2, 3, 2, 1, 2, 3, 3, 2, 2, 2, 2, 2, 3, 2, 1, 1, 3, 3, 2, 1, 1, 3, 1, 1, 1, 1, 1, 3, 1, 1, 1, 1, 2, 3, 2, 1, 3, 3, 2, 1, 1] o).trans (congrArg (o + ·) (by kernel_rfl))
theorem sp_out (o : Int) : (((((((((((((((((((((((((((((((((((((((((((o + 2) + 2) + 3) + 2) + 1) + 2) + 3) + 3) + 2) + 2) + 2) + 2) + 2) + 3) + 2) + 1) + 1) + 3) + 3) + 2) + 1) + 1) + 3) + 1) + 1) + 1) + 1) + 1) + 3) + 1) + 1) + 1) + 1) + 2) + 3) + 2) + 1) + 3) + 3) + 2) + 1) + 1) + 1) = o + 79 := (suL_eq [2, 2, 3, 2, 1, 2, 3, 3, 2, 2, 2, 2, 2, 3, 2, 1, 1, 3, 3, 2, 1, 1, 3, 1, 1, 1, 1, 1, 3, 1, 1, 1, 1, 2, 3, 2, 1, 3, 3, 2, 1, 1, 1] o).trans (congrArg (o + ·) (by kernel_rfl))
theorem sp_stop (o : Int) : ((((((((((((((((((((((((((((((((((((((((((((o + 2) + 2) + 3) + 2) + 1) + 2) + 3) + 3) + 2) + 2) + 2) + 2) + 2) + 3) + 2) + 1) + 1) + 3) + 3) + 2) + 1) + 1) + 3) + 1) + 1) + 1) + 1) + 1) + 3) + 1) + 1) + 1) + 1) + 2) + 3) + 2) + 1) + 3) + 3) + 2) + 1) + 1) + 1) + 1) = o + 80 := (suL_eq [2, 2, 3, 2, 1, 2, 3, 3, 2, 2, 2, 2, 2, 3, 2, 1, 1, 3, 3, 2, 1, 1, 3, 1, 1, 1, 1, 1, 3, 1, 1, 1, 1, 2, 3, 2, 1, 3, 3, 2, 1, 1, 1, 1] o).trans (congrArg (o + ·) (by kernel_rfl))
theorem raw_eq (o : Int) : rawO o = codeO o := by
  exact (cn (rfl) (cn (rfl) (cn (rfl) (cn (rfl) (cn (rfl) (cn (fm_of (sp_match o)) (cn (fd_of (sp_match o)) (cn (rfl) (cn (rfl) (cn (rfl) (cn (rfl) (cn (rfl) (cn (rfl) (cn (fm_of (sp_stop o)) (cn (fd_of (sp_stop o)) (cn (rfl) (cn (rfl) (cn (rfl) (cn (rfl) (cn (nr_of (sp_end o) rfl) (cn (rfl) (cn (rfl) (cn (rfl) (cn (nr_of (sp_star o) rfl) (cn (rfl) (cn (rfl) (cn (rfl) (cn (nr_of (sp_any o) rfl) (cn (rfl) (cn (rfl) (cn (rfl) (cn (rfl) (cn (nr_of (sp_fail o) rfl) (cn (rfl) (cn (rfl) (cn (rfl) (cn (fm_of (sp_match o)) (cn (fd_of (sp_match o)) (cn (rfl) (cn (rfl) (cn (rfl) (cn (rfl) (cn (nr_of (sp_fail o) rfl) (cn (rfl) (cn (rfl) (cn (rfl) (cn (fm_of (sp_match o)) (cn (fd_of (sp_match o)) (cn (rfl) (cn (rfl) (cn (rfl) (cn (rfl) (cn (rfl) (cn (rfl) (cn (fm_of (sp_match o)) (cn (fd_of (sp_match o)) (cn (rfl) (cn (rfl) (cn (rfl) (cn (rfl) (cn (rfl) (cn (nr_of (sp_out o) rfl) (cn (rfl) (cn (rfl) (cn (rfl) (cn (rfl) (cn (nr_of (sp_fail o) rfl) (cn (rfl) (cn (rfl) (cn (fm_of (sp_match o)) (cn (fd_of (sp_match o)) (cn (rfl) (cn (rfl) (cn (rfl) (cn (rfl) (cn (nr_of (sp_yes o) rfl) (cn (rfl) (cn (rfl) (cn (rfl) (cn (rfl) rfl))))))))))))))))))))))))))))))))))))))))))))))))))))))))))))))))))))))))))))))))
structure MemOk (o : Int) (P T mem : List Int) : Prop where
  ho : 512 ≤ o ∧ o ≤ 767
  len : mem.length = 1088
  code : ∀ k : Int, 0 ≤ k → k < 80 → get mem (o + k) = get (codeO o) k
  pats : ∀ i : Nat, i ≤ 5 → get mem (1024 + (i : Int)) = P.getD i 0
  txts : ∀ i : Nat, i ≤ 4 → get mem (1056 + (i : Int)) = T.getD i 0
  pv : ∀ i : Nat, 0 ≤ P.getD i 0 ∧ P.getD i 0 < 256
  tv : ∀ i : Nat, 0 ≤ T.getD i 0 ∧ T.getD i 0 < 256
theorem MemOk.le {o : Int} {P T mem : List Int} (H : MemOk o P T mem) {k : Int} (h : k < 1088) : k < mem.length := by rw [H.len]; exact h
theorem MemOk.t1 {o t : Int} {P T mem : List Int} (H : MemOk o P T mem) (h : decide (0 ≤ t ∧ t < 100) = true) : 0 ≤ (o + t) / 256 ∧ (o + t) / 256 < 256 := by have := H.ho; have := of_decide_eq_true h; omega
theorem tgP (t : Int) : t % 256 + t / 256 * 256 = t := by omega
theorem MemOk.t3 {o t : Int} {P T mem : List Int} (H : MemOk o P T mem) (h : decide (0 ≤ t ∧ t < 100) = true) : 0 ≤ o + t := by have := H.ho; have := of_decide_eq_true h; omega
theorem MemOk.t4 {o t : Int} {P T mem : List Int} (H : MemOk o P T mem) (h : decide (0 ≤ t ∧ t < 100) = true) : o + t < 65536 := by have := H.ho; have := of_decide_eq_true h; omega
theorem MemOk.t5 {o t : Int} {P T mem : List Int} (H : MemOk o P T mem) (h : decide (0 ≤ t ∧ t < 100) = true) : 512 ≤ o + t := by have := H.ho; have := of_decide_eq_true h; omega
theorem MemOk.f {o : Int} {P T mem : List Int} (H : MemOk o P T mem) {pc k op : Int} (e : pc = o + k) (h0 : 0 ≤ k) (h1 : k < 80) (g : get (codeO o) k = op) : Fetch mem pc op := by
  have ho := H.ho
  have hl := H.len
  subst e
  exact ⟨by omega, by omega, by omega, (H.code k h0 h1).trans g⟩
theorem MemOk.b1 {o : Int} {P T mem : List Int} (H : MemOk o P T mem) {pc k v : Int} (e : pc = o + k) (h0 : 0 ≤ k) (h1 : k + 1 < 80) (g : get (codeO o) (k + 1) = v) : get mem (pc + 1) = v := by
  subst e
  rw [Int.add_assoc]
  exact (H.code (k + 1) (by omega) h1).trans g
theorem MemOk.b2 {o : Int} {P T mem : List Int} (H : MemOk o P T mem) {pc k v : Int} (e : pc = o + k) (h0 : 0 ≤ k) (h1 : k + 2 < 80) (g : get (codeO o) (k + 2) = v) : get mem (pc + 2) = v := by
  subst e
  rw [Int.add_assoc]
  exact (H.code (k + 2) (by omega) h1).trans g
section
variable {o : Int} {P T mem : List Int} {a x y sp : Int} {n z c : Bool}
theorem i0 (H : MemOk o P T mem) : Stp ⟨a, x, y, sp, Pf n z c, o + 0, mem⟩ ⟨a, 0, y, sp, Pz 0 c, o + 2, mem⟩ := by
  have ho := H.ho
  exact (s_ldx (H.f (k := 0) rfl (by decide) (by decide) rfl) (H.b1 (k := 0) (v := 0) rfl (by decide) (by decide) rfl) (by omega) (by omega)).to (mk_eq rfl rfl rfl rfl rfl (Int.add_assoc ..) rfl)
theorem i2 (H : MemOk o P T mem) : Stp ⟨a, x, y, sp, Pf n z c, o + 2, mem⟩ ⟨a, x, 0, sp, Pz 0 c, o + 4, mem⟩ := by
  have ho := H.ho
  exact (s_ldy (H.f (k := 2) rfl (by decide) (by decide) rfl) (H.b1 (k := 2) (v := 0) rfl (by decide) (by decide) rfl) (by omega) (by omega)).to (mk_eq rfl rfl rfl rfl rfl (Int.add_assoc ..) rfl)
theorem i4 (H : MemOk o P T mem) (hp : 2 ≤ sp) (hp1 : sp ≤ 255) : Stp ⟨a, x, y, sp, Pf n z c, o + 4, mem⟩ ⟨a, x, y, (sp - 2), Pf n z c, o + 15, (mem.set (sp + 256).toNat ((o + 4 + 2) / 256)).set (sp - 1 + 256).toNat ((o + 4 + 2) % 256)⟩ := by
  have ho := H.ho
  exact s_jsr (s1 := sp - 1) (H.f (k := 4) rfl (by decide) (by decide) rfl) (by omega) (by omega) (H.b1 (k := 4) (v := (o + 15) % 256) rfl (by decide) (by decide) rfl) (H.b2 (k := 4) (v := (o + 15) / 256) rfl (by decide) (by decide) rfl) (H.t1 (t := 15) (by decide)) (tgP _) (H.t3 (t := 15) (by decide)) (H.t4 (t := 15) (by decide)) (by omega) (by omega) (H.t5 (t := 4) (by decide)) rfl rfl
theorem i7 (H : MemOk o P T mem) : Stp ⟨a, x, y, sp, Pf n z c, o + 7, mem⟩ ⟨0, x, y, sp, Pz 0 c, o + 9, mem⟩ := by
  have ho := H.ho
  exact (s_lda (H.f (k := 7) rfl (by decide) (by decide) rfl) (H.b1 (k := 7) (v := 0) rfl (by decide) (by decide) rfl) (by omega) (by omega)).to (mk_eq rfl rfl rfl rfl rfl (Int.add_assoc ..) rfl)
theorem i9 (H : MemOk o P T mem) : Stp ⟨0, x, y, sp, Pf n z c, o + 9, mem⟩ ⟨(match c with | true => 1 | false => 0), x, y, sp, Pf false (!c) false, o + 10, mem⟩ := by
  have ho := H.ho
  exact (s_rola0 (H.f (k := 9) rfl (by decide) (by decide) rfl)).to (mk_eq rfl rfl rfl rfl rfl (Int.add_assoc ..) rfl)
theorem i10 (H : MemOk o P T mem) : Stp ⟨a, x, y, sp, Pf n z c, o + 10, mem⟩ ⟨a, x, y, sp, Pf n z c, o + 12, mem.set 16 a⟩ := by
  have ho := H.ho
  exact (s_sta2 (H.f (k := 10) rfl (by decide) (by decide) rfl) (H.b1 (k := 10) (v := 16) rfl (by decide) (by decide) rfl) (by omega) (by have := H.len; omega)).to (mk_eq rfl rfl rfl rfl rfl (Int.add_assoc ..) rfl)
theorem i12 (H : MemOk o P T mem) : Stp ⟨a, x, y, sp, Pf n z c, o + 12, mem⟩ ⟨a, x, y, sp, Pf n z c, o + 80, mem⟩ := by
  have ho := H.ho
  exact s_jmp (H.f (k := 12) rfl (by decide) (by decide) rfl) (H.b1 (k := 12) (v := (o + 80) % 256) rfl (by decide) (by decide) rfl) (H.b2 (k := 12) (v := (o + 80) / 256) rfl (by decide) (by decide) rfl) (H.t1 (t := 80) (by decide)) (tgP _) (H.t3 (t := 80) (by decide)) (H.t4 (t := 80) (by decide))
theorem i15 (H : MemOk o P T mem) (i : Nat) (hi : i ≤ 5) : Stp ⟨a, (i : Nat), y, sp, Pf n z c, o + 15, mem⟩ ⟨P.getD i 0, (i : Nat), y, sp, Pz (P.getD i 0) c, o + 18, mem⟩ := by
  have ho := H.ho
  exact (s_ldax (k := 1024 + (i : Int)) (H.f (k := 15) rfl (by decide) (by decide) rfl) (H.b1 (k := 15) (v := 0) rfl (by decide) (by decide) rfl) (H.b2 (k := 15) (v := 4) rfl (by decide) (by decide) rfl) (by decide) (by decide) rfl (by omega) (H.le (by omega)) (H.pats i hi) (H.pv i).1 (H.pv i).2).to (mk_eq rfl rfl rfl rfl rfl (Int.add_assoc ..) rfl)
theorem n18 (H : MemOk o P T mem) (hf : z = false) : Stp ⟨a, x, y, sp, Pf n z c, o + 18, mem⟩ ⟨a, x, y, sp, Pf n z c, o + 20, mem⟩ := by
  have ho := H.ho
  exact (s_beq_n (H.f (k := 18) rfl (by decide) (by decide) rfl) hf).to (mk_eq rfl rfl rfl rfl rfl (Int.add_assoc ..) rfl)
theorem t18 (H : MemOk o P T mem) (hf : z = true) : Stp ⟨a, x, y, sp, Pf n z c, o + 18, mem⟩ ⟨a, x, y, sp, Pf n z c, o + 71, mem⟩ := by
  have ho := H.ho
  exact s_beq_t (H.f (k := 18) rfl (by decide) (by decide) rfl) hf (H.b1 (k := 18) (v := 51) rfl (by decide) (by decide) rfl) (by decide) (by rw [if_neg (by decide), Int.add_assoc, Int.add_assoc]; rfl) (H.t3 (t := 71) (by decide)) (H.t4 (t := 71) (by decide))
theorem i20 (H : MemOk o P T mem) (h0 : 0 ≤ a ∧ a < 256) : Stp ⟨a, x, y, sp, Pf n z c, o + 20, mem⟩ ⟨a, x, y, sp, Pc a 42, o + 22, mem⟩ := by
  have ho := H.ho
  exact (s_cmp (H.f (k := 20) rfl (by decide) (by decide) rfl) (H.b1 (k := 20) (v := 42) rfl (by decide) (by decide) rfl) h0 (by omega)).to (mk_eq rfl rfl rfl rfl rfl (Int.add_assoc ..) rfl)
theorem n22 (H : MemOk o P T mem) (hf : z = false) : Stp ⟨a, x, y, sp, Pf n z c, o + 22, mem⟩ ⟨a, x, y, sp, Pf n z c, o + 24, mem⟩ := by
  have ho := H.ho
  exact (s_beq_n (H.f (k := 22) rfl (by decide) (by decide) rfl) hf).to (mk_eq rfl rfl rfl rfl rfl (Int.add_assoc ..) rfl)
theorem t22 (H : MemOk o P T mem) (hf : z = true) : Stp ⟨a, x, y, sp, Pf n z c, o + 22, mem⟩ ⟨a, x, y, sp, Pf n z c, o + 48, mem⟩ := by
  have ho := H.ho
  exact s_beq_t (H.f (k := 22) rfl (by decide) (by decide) rfl) hf (H.b1 (k := 22) (v := 24) rfl (by decide) (by decide) rfl) (by decide) (by rw [if_neg (by decide), Int.add_assoc, Int.add_assoc]; rfl) (H.t3 (t := 48) (by decide)) (H.t4 (t := 48) (by decide))
theorem i24 (H : MemOk o P T mem) (h0 : 0 ≤ a ∧ a < 256) : Stp ⟨a, x, y, sp, Pf n z c, o + 24, mem⟩ ⟨a, x, y, sp, Pc a 63, o + 26, mem⟩ := by
  have ho := H.ho
  exact (s_cmp (H.f (k := 24) rfl (by decide) (by decide) rfl) (H.b1 (k := 24) (v := 63) rfl (by decide) (by decide) rfl) h0 (by omega)).to (mk_eq rfl rfl rfl rfl rfl (Int.add_assoc ..) rfl)
theorem n26 (H : MemOk o P T mem) (hf : z = false) : Stp ⟨a, x, y, sp, Pf n z c, o + 26, mem⟩ ⟨a, x, y, sp, Pf n z c, o + 28, mem⟩ := by
  have ho := H.ho
  exact (s_beq_n (H.f (k := 26) rfl (by decide) (by decide) rfl) hf).to (mk_eq rfl rfl rfl rfl rfl (Int.add_assoc ..) rfl)
theorem t26 (H : MemOk o P T mem) (hf : z = true) : Stp ⟨a, x, y, sp, Pf n z c, o + 26, mem⟩ ⟨a, x, y, sp, Pf n z c, o + 38, mem⟩ := by
  have ho := H.ho
  exact s_beq_t (H.f (k := 26) rfl (by decide) (by decide) rfl) hf (H.b1 (k := 26) (v := 10) rfl (by decide) (by decide) rfl) (by decide) (by rw [if_neg (by decide), Int.add_assoc, Int.add_assoc]; rfl) (H.t3 (t := 38) (by decide)) (H.t4 (t := 38) (by decide))
theorem i28 (H : MemOk o P T mem) (j : Nat) (hj : j ≤ 4) (h0 : 0 ≤ a ∧ a < 256) : Stp ⟨a, x, (j : Nat), sp, Pf n z c, o + 28, mem⟩ ⟨a, x, (j : Nat), sp, Pc a (T.getD j 0), o + 31, mem⟩ := by
  have ho := H.ho
  exact (s_cmpy (k := 1056 + (j : Int)) (H.f (k := 28) rfl (by decide) (by decide) rfl) (H.b1 (k := 28) (v := 32) rfl (by decide) (by decide) rfl) (H.b2 (k := 28) (v := 4) rfl (by decide) (by decide) rfl) (by decide) (by decide) rfl (by omega) (H.le (by omega)) (H.txts j hj) h0 (H.tv j)).to (mk_eq rfl rfl rfl rfl rfl (Int.add_assoc ..) rfl)
theorem n31 (H : MemOk o P T mem) (hf : z = true) : Stp ⟨a, x, y, sp, Pf n z c, o + 31, mem⟩ ⟨a, x, y, sp, Pf n z c, o + 33, mem⟩ := by
  have ho := H.ho
  exact (s_bne_n (H.f (k := 31) rfl (by decide) (by decide) rfl) hf).to (mk_eq rfl rfl rfl rfl rfl (Int.add_assoc ..) rfl)
theorem t31 (H : MemOk o P T mem) (hf : z = false) : Stp ⟨a, x, y, sp, Pf n z c, o + 31, mem⟩ ⟨a, x, y, sp, Pf n z c, o + 76, mem⟩ := by
  have ho := H.ho
  exact s_bne_t (H.f (k := 31) rfl (by decide) (by decide) rfl) hf (H.b1 (k := 31) (v := 43) rfl (by decide) (by decide) rfl) (by decide) (by rw [if_neg (by decide), Int.add_assoc, Int.add_assoc]; rfl) (H.t3 (t := 76) (by decide)) (H.t4 (t := 76) (by decide))
theorem i33 (H : MemOk o P T mem) (i : Nat) (hi : i ≤ 5) : Stp ⟨a, (i : Nat), y, sp, Pf n z c, o + 33, mem⟩ ⟨a, ((i + 1 : Nat) : Int), y, sp, Pz ((i + 1 : Nat) : Int) c, o + 34, mem⟩ := by
  have ho := H.ho
  exact (s_inx (H.f (k := 33) rfl (by decide) (by decide) rfl) (by omega)).to (mk_eq rfl rfl rfl rfl rfl (Int.add_assoc ..) rfl)
theorem i34 (H : MemOk o P T mem) (j : Nat) (hj : j ≤ 4) : Stp ⟨a, x, (j : Nat), sp, Pf n z c, o + 34, mem⟩ ⟨a, x, ((j + 1 : Nat) : Int), sp, Pz ((j + 1 : Nat) : Int) c, o + 35, mem⟩ := by
  have ho := H.ho
  exact (s_iny (H.f (k := 34) rfl (by decide) (by decide) rfl) (by omega)).to (mk_eq rfl rfl rfl rfl rfl (Int.add_assoc ..) rfl)
theorem i35 (H : MemOk o P T mem) : Stp ⟨a, x, y, sp, Pf n z c, o + 35, mem⟩ ⟨a, x, y, sp, Pf n z c, o + 15, mem⟩ := by
  have ho := H.ho
  exact s_jmp (H.f (k := 35) rfl (by decide) (by decide) rfl) (H.b1 (k := 35) (v := (o + 15) % 256) rfl (by decide) (by decide) rfl) (H.b2 (k := 35) (v := (o + 15) / 256) rfl (by decide) (by decide) rfl) (H.t1 (t := 15) (by decide)) (tgP _) (H.t3 (t := 15) (by decide)) (H.t4 (t := 15) (by decide))
theorem i38 (H : MemOk o P T mem) (j : Nat) (hj : j ≤ 4) : Stp ⟨a, x, (j : Nat), sp, Pf n z c, o + 38, mem⟩ ⟨T.getD j 0, x, (j : Nat), sp, Pz (T.getD j 0) c, o + 41, mem⟩ := by
  have ho := H.ho
  exact (s_lday (k := 1056 + (j : Int)) (H.f (k := 38) rfl (by decide) (by decide) rfl) (H.b1 (k := 38) (v := 32) rfl (by decide) (by decide) rfl) (H.b2 (k := 38) (v := 4) rfl (by decide) (by decide) rfl) (by decide) (by decide) rfl (by omega) (H.le (by omega)) (H.txts j hj) (H.tv j).1 (H.tv j).2).to (mk_eq rfl rfl rfl rfl rfl (Int.add_assoc ..) rfl)
theorem n41 (H : MemOk o P T mem) (hf : z = false) : Stp ⟨a, x, y, sp, Pf n z c, o + 41, mem⟩ ⟨a, x, y, sp, Pf n z c, o + 43, mem⟩ := by
  have ho := H.ho
  exact (s_beq_n (H.f (k := 41) rfl (by decide) (by decide) rfl) hf).to (mk_eq rfl rfl rfl rfl rfl (Int.add_assoc ..) rfl)
theorem t41 (H : MemOk o P T mem) (hf : z = true) : Stp ⟨a, x, y, sp, Pf n z c, o + 41, mem⟩ ⟨a, x, y, sp, Pf n z c, o + 76, mem⟩ := by
  have ho := H.ho
  exact s_beq_t (H.f (k := 41) rfl (by decide) (by decide) rfl) hf (H.b1 (k := 41) (v := 33) rfl (by decide) (by decide) rfl) (by decide) (by rw [if_neg (by decide), Int.add_assoc, Int.add_assoc]; rfl) (H.t3 (t := 76) (by decide)) (H.t4 (t := 76) (by decide))
theorem i43 (H : MemOk o P T mem) (i : Nat) (hi : i ≤ 5) : Stp ⟨a, (i : Nat), y, sp, Pf n z c, o + 43, mem⟩ ⟨a, ((i + 1 : Nat) : Int), y, sp, Pz ((i + 1 : Nat) : Int) c, o + 44, mem⟩ := by
  have ho := H.ho
  exact (s_inx (H.f (k := 43) rfl (by decide) (by decide) rfl) (by omega)).to (mk_eq rfl rfl rfl rfl rfl (Int.add_assoc ..) rfl)
theorem i44 (H : MemOk o P T mem) (j : Nat) (hj : j ≤ 4) : Stp ⟨a, x, (j : Nat), sp, Pf n z c, o + 44, mem⟩ ⟨a, x, ((j + 1 : Nat) : Int), sp, Pz ((j + 1 : Nat) : Int) c, o + 45, mem⟩ := by
  have ho := H.ho
  exact (s_iny (H.f (k := 44) rfl (by decide) (by decide) rfl) (by omega)).to (mk_eq rfl rfl rfl rfl rfl (Int.add_assoc ..) rfl)
theorem i45 (H : MemOk o P T mem) : Stp ⟨a, x, y, sp, Pf n z c, o + 45, mem⟩ ⟨a, x, y, sp, Pf n z c, o + 15, mem⟩ := by
  have ho := H.ho
  exact s_jmp (H.f (k := 45) rfl (by decide) (by decide) rfl) (H.b1 (k := 45) (v := (o + 15) % 256) rfl (by decide) (by decide) rfl) (H.b2 (k := 45) (v := (o + 15) / 256) rfl (by decide) (by decide) rfl) (H.t1 (t := 15) (by decide)) (tgP _) (H.t3 (t := 15) (by decide)) (H.t4 (t := 15) (by decide))
theorem i48 (H : MemOk o P T mem) (h0 : 0 ≤ x) (h1 : x < 256) : Stp ⟨a, x, y, sp, Pf n z c, o + 48, mem⟩ ⟨x, x, y, sp, Pz x c, o + 49, mem⟩ := by
  have ho := H.ho
  exact (s_txa (H.f (k := 48) rfl (by decide) (by decide) rfl) rfl h0 h1).to (mk_eq rfl rfl rfl rfl rfl (Int.add_assoc ..) rfl)
theorem i49 (H : MemOk o P T mem) (ha : 0 ≤ a) (ha1 : a < 256) (hp : 1 ≤ sp) (hp1 : sp ≤ 255) : Stp ⟨a, x, y, sp, Pf n z c, o + 49, mem⟩ ⟨a, x, y, (sp - 1), Pf n z c, o + 50, mem.set (sp + 256).toNat a⟩ := by
  have ho := H.ho
  exact (s_pha (H.f (k := 49) rfl (by decide) (by decide) rfl) (by omega) ha ha1 (by omega) (by have := H.len; omega)).to (mk_eq rfl rfl rfl rfl rfl (Int.add_assoc ..) rfl)
theorem i50 (H : MemOk o P T mem) (h0 : 0 ≤ y) (h1 : y < 256) : Stp ⟨a, x, y, sp, Pf n z c, o + 50, mem⟩ ⟨y, x, y, sp, Pz y c, o + 51, mem⟩ := by
  have ho := H.ho
  exact (s_tya (H.f (k := 50) rfl (by decide) (by decide) rfl) rfl h0 h1).to (mk_eq rfl rfl rfl rfl rfl (Int.add_assoc ..) rfl)
theorem i51 (H : MemOk o P T mem) (ha : 0 ≤ a) (ha1 : a < 256) (hp : 1 ≤ sp) (hp1 : sp ≤ 255) : Stp ⟨a, x, y, sp, Pf n z c, o + 51, mem⟩ ⟨a, x, y, (sp - 1), Pf n z c, o + 52, mem.set (sp + 256).toNat a⟩ := by
  have ho := H.ho
  exact (s_pha (H.f (k := 51) rfl (by decide) (by decide) rfl) (by omega) ha ha1 (by omega) (by have := H.len; omega)).to (mk_eq rfl rfl rfl rfl rfl (Int.add_assoc ..) rfl)
theorem i52 (H : MemOk o P T mem) (i : Nat) (hi : i ≤ 5) : Stp ⟨a, (i : Nat), y, sp, Pf n z c, o + 52, mem⟩ ⟨a, ((i + 1 : Nat) : Int), y, sp, Pz ((i + 1 : Nat) : Int) c, o + 53, mem⟩ := by
  have ho := H.ho
  exact (s_inx (H.f (k := 52) rfl (by decide) (by decide) rfl) (by omega)).to (mk_eq rfl rfl rfl rfl rfl (Int.add_assoc ..) rfl)
theorem i53 (H : MemOk o P T mem) (hp : 2 ≤ sp) (hp1 : sp ≤ 255) : Stp ⟨a, x, y, sp, Pf n z c, o + 53, mem⟩ ⟨a, x, y, (sp - 2), Pf n z c, o + 15, (mem.set (sp + 256).toNat ((o + 53 + 2) / 256)).set (sp - 1 + 256).toNat ((o + 53 + 2) % 256)⟩ := by
  have ho := H.ho
  exact s_jsr (s1 := sp - 1) (H.f (k := 53) rfl (by decide) (by decide) rfl) (by omega) (by omega) (H.b1 (k := 53) (v := (o + 15) % 256) rfl (by decide) (by decide) rfl) (H.b2 (k := 53) (v := (o + 15) / 256) rfl (by decide) (by decide) rfl) (H.t1 (t := 15) (by decide)) (tgP _) (H.t3 (t := 15) (by decide)) (H.t4 (t := 15) (by decide)) (by omega) (by omega) (H.t5 (t := 53) (by decide)) rfl rfl
theorem i56 (H : MemOk o P T mem) {v : Int} (hv : get mem (sp + 1 + 256) = v) (h0 : 0 ≤ v) (h1 : v < 256) (hp : 0 ≤ sp) (hp1 : sp ≤ 254) : Stp ⟨a, x, y, sp, Pf n z c, o + 56, mem⟩ ⟨v, x, y, (sp + 1), Pz v c, o + 57, mem⟩ := by
  have ho := H.ho
  exact (s_pla (H.f (k := 56) rfl (by decide) (by decide) rfl) (by omega) hv h0 h1 (by have := H.len; omega)).to (mk_eq rfl rfl rfl rfl rfl (Int.add_assoc ..) rfl)
theorem i57 (H : MemOk o P T mem) (h0 : 0 ≤ a) (h1 : a < 256) : Stp ⟨a, x, y, sp, Pf n z c, o + 57, mem⟩ ⟨a, x, a, sp, Pz a c, o + 58, mem⟩ := by
  have ho := H.ho
  exact (s_tay (H.f (k := 57) rfl (by decide) (by decide) rfl) rfl h0 h1).to (mk_eq rfl rfl rfl rfl rfl (Int.add_assoc ..) rfl)
theorem i58 (H : MemOk o P T mem) {v : Int} (hv : get mem (sp + 1 + 256) = v) (h0 : 0 ≤ v) (h1 : v < 256) (hp : 0 ≤ sp) (hp1 : sp ≤ 254) : Stp ⟨a, x, y, sp, Pf n z c, o + 58, mem⟩ ⟨v, x, y, (sp + 1), Pz v c, o + 59, mem⟩ := by
  have ho := H.ho
  exact (s_pla (H.f (k := 58) rfl (by decide) (by decide) rfl) (by omega) hv h0 h1 (by have := H.len; omega)).to (mk_eq rfl rfl rfl rfl rfl (Int.add_assoc ..) rfl)
theorem i59 (H : MemOk o P T mem) (h0 : 0 ≤ a) (h1 : a < 256) : Stp ⟨a, x, y, sp, Pf n z c, o + 59, mem⟩ ⟨a, a, y, sp, Pz a c, o + 60, mem⟩ := by
  have ho := H.ho
  exact (s_tax (H.f (k := 59) rfl (by decide) (by decide) rfl) rfl h0 h1).to (mk_eq rfl rfl rfl rfl rfl (Int.add_assoc ..) rfl)
theorem n60 (H : MemOk o P T mem) (hf : c = false) : Stp ⟨a, x, y, sp, Pf n z c, o + 60, mem⟩ ⟨a, x, y, sp, Pf n z c, o + 62, mem⟩ := by
  have ho := H.ho
  exact (s_bcs_n (H.f (k := 60) rfl (by decide) (by decide) rfl) hf).to (mk_eq rfl rfl rfl rfl rfl (Int.add_assoc ..) rfl)
theorem t60 (H : MemOk o P T mem) (hf : c = true) : Stp ⟨a, x, y, sp, Pf n z c, o + 60, mem⟩ ⟨a, x, y, sp, Pf n z c, o + 79, mem⟩ := by
  have ho := H.ho
  exact s_bcs_t (H.f (k := 60) rfl (by decide) (by decide) rfl) hf (H.b1 (k := 60) (v := 17) rfl (by decide) (by decide) rfl) (by decide) (by rw [if_neg (by decide), Int.add_assoc, Int.add_assoc]; rfl) (H.t3 (t := 79) (by decide)) (H.t4 (t := 79) (by decide))
theorem i62 (H : MemOk o P T mem) (j : Nat) (hj : j ≤ 4) : Stp ⟨a, x, (j : Nat), sp, Pf n z c, o + 62, mem⟩ ⟨T.getD j 0, x, (j : Nat), sp, Pz (T.getD j 0) c, o + 65, mem⟩ := by
  have ho := H.ho
  exact (s_lday (k := 1056 + (j : Int)) (H.f (k := 62) rfl (by decide) (by decide) rfl) (H.b1 (k := 62) (v := 32) rfl (by decide) (by decide) rfl) (H.b2 (k := 62) (v := 4) rfl (by decide) (by decide) rfl) (by decide) (by decide) rfl (by omega) (H.le (by omega)) (H.txts j hj) (H.tv j).1 (H.tv j).2).to (mk_eq rfl rfl rfl rfl rfl (Int.add_assoc ..) rfl)
theorem n65 (H : MemOk o P T mem) (hf : z = false) : Stp ⟨a, x, y, sp, Pf n z c, o + 65, mem⟩ ⟨a, x, y, sp, Pf n z c, o + 67, mem⟩ := by
  have ho := H.ho
  exact (s_beq_n (H.f (k := 65) rfl (by decide) (by decide) rfl) hf).to (mk_eq rfl rfl rfl rfl rfl (Int.add_assoc ..) rfl)
theorem t65 (H : MemOk o P T mem) (hf : z = true) : Stp ⟨a, x, y, sp, Pf n z c, o + 65, mem⟩ ⟨a, x, y, sp, Pf n z c, o + 76, mem⟩ := by
  have ho := H.ho
  exact s_beq_t (H.f (k := 65) rfl (by decide) (by decide) rfl) hf (H.b1 (k := 65) (v := 9) rfl (by decide) (by decide) rfl) (by decide) (by rw [if_neg (by decide), Int.add_assoc, Int.add_assoc]; rfl) (H.t3 (t := 76) (by decide)) (H.t4 (t := 76) (by decide))
theorem i67 (H : MemOk o P T mem) (j : Nat) (hj : j ≤ 4) : Stp ⟨a, x, (j : Nat), sp, Pf n z c, o + 67, mem⟩ ⟨a, x, ((j + 1 : Nat) : Int), sp, Pz ((j + 1 : Nat) : Int) c, o + 68, mem⟩ := by
  have ho := H.ho
  exact (s_iny (H.f (k := 67) rfl (by decide) (by decide) rfl) (by omega)).to (mk_eq rfl rfl rfl rfl rfl (Int.add_assoc ..) rfl)
theorem i68 (H : MemOk o P T mem) : Stp ⟨a, x, y, sp, Pf n z c, o + 68, mem⟩ ⟨a, x, y, sp, Pf n z c, o + 15, mem⟩ := by
  have ho := H.ho
  exact s_jmp (H.f (k := 68) rfl (by decide) (by decide) rfl) (H.b1 (k := 68) (v := (o + 15) % 256) rfl (by decide) (by decide) rfl) (H.b2 (k := 68) (v := (o + 15) / 256) rfl (by decide) (by decide) rfl) (H.t1 (t := 15) (by decide)) (tgP _) (H.t3 (t := 15) (by decide)) (H.t4 (t := 15) (by decide))
theorem i71 (H : MemOk o P T mem) (j : Nat) (hj : j ≤ 4) : Stp ⟨a, x, (j : Nat), sp, Pf n z c, o + 71, mem⟩ ⟨T.getD j 0, x, (j : Nat), sp, Pz (T.getD j 0) c, o + 74, mem⟩ := by
  have ho := H.ho
  exact (s_lday (k := 1056 + (j : Int)) (H.f (k := 71) rfl (by decide) (by decide) rfl) (H.b1 (k := 71) (v := 32) rfl (by decide) (by decide) rfl) (H.b2 (k := 71) (v := 4) rfl (by decide) (by decide) rfl) (by decide) (by decide) rfl (by omega) (H.le (by omega)) (H.txts j hj) (H.tv j).1 (H.tv j).2).to (mk_eq rfl rfl rfl rfl rfl (Int.add_assoc ..) rfl)
theorem n74 (H : MemOk o P T mem) (hf : z = false) : Stp ⟨a, x, y, sp, Pf n z c, o + 74, mem⟩ ⟨a, x, y, sp, Pf n z c, o + 76, mem⟩ := by
  have ho := H.ho
  exact (s_beq_n (H.f (k := 74) rfl (by decide) (by decide) rfl) hf).to (mk_eq rfl rfl rfl rfl rfl (Int.add_assoc ..) rfl)
theorem t74 (H : MemOk o P T mem) (hf : z = true) : Stp ⟨a, x, y, sp, Pf n z c, o + 74, mem⟩ ⟨a, x, y, sp, Pf n z c, o + 78, mem⟩ := by
  have ho := H.ho
  exact s_beq_t (H.f (k := 74) rfl (by decide) (by decide) rfl) hf (H.b1 (k := 74) (v := 2) rfl (by decide) (by decide) rfl) (by decide) (by rw [if_neg (by decide), Int.add_assoc, Int.add_assoc]; rfl) (H.t3 (t := 78) (by decide)) (H.t4 (t := 78) (by decide))
theorem i76 (H : MemOk o P T mem) : Stp ⟨a, x, y, sp, Pf n z c, o + 76, mem⟩ ⟨a, x, y, sp, Pf n z false, o + 77, mem⟩ := by
  have ho := H.ho
  exact (s_clc (H.f (k := 76) rfl (by decide) (by decide) rfl)).to (mk_eq rfl rfl rfl rfl rfl (Int.add_assoc ..) rfl)
theorem i77 (H : MemOk o P T mem) {lo hi r : Int} (hp : 0 ≤ sp) (hp1 : sp ≤ 253) (hlo : get mem (sp + 257) = lo) (hhi : get mem (sp + 258) = hi) (hh0 : 0 ≤ hi ∧ hi < 256) (hk : lo + hi * 256 + 1 = r) (hk0 : 0 ≤ r) (hk1 : r < 65536) : Stp ⟨a, x, y, sp, Pf n z c, o + 77, mem⟩ ⟨a, x, y, (sp + 2), Pf n z c, r, mem⟩ := by
  have ho := H.ho
  exact s_rts (s1 := sp + 1) (H.f (k := 77) rfl (by decide) (by decide) rfl) (by omega) (by omega) (by rw [show sp + 1 + 256 = sp + 257 by omega]; exact hlo) (by rw [show sp + 2 + 256 = sp + 258 by omega]; exact hhi) hh0 hk hk0 hk1 (by have := H.len; omega)
theorem i78 (H : MemOk o P T mem) : Stp ⟨a, x, y, sp, Pf n z c, o + 78, mem⟩ ⟨a, x, y, sp, Pf n z true, o + 79, mem⟩ := by
  have ho := H.ho
  exact (s_sec (H.f (k := 78) rfl (by decide) (by decide) rfl)).to (mk_eq rfl rfl rfl rfl rfl (Int.add_assoc ..) rfl)
theorem i79 (H : MemOk o P T mem) {lo hi r : Int} (hp : 0 ≤ sp) (hp1 : sp ≤ 253) (hlo : get mem (sp + 257) = lo) (hhi : get mem (sp + 258) = hi) (hh0 : 0 ≤ hi ∧ hi < 256) (hk : lo + hi * 256 + 1 = r) (hk0 : 0 ≤ r) (hk1 : r < 65536) : Stp ⟨a, x, y, sp, Pf n z c, o + 79, mem⟩ ⟨a, x, y, (sp + 2), Pf n z c, r, mem⟩ := by
  have ho := H.ho
  exact s_rts (s1 := sp + 1) (H.f (k := 79) rfl (by decide) (by decide) rfl) (by omega) (by omega) (by rw [show sp + 1 + 256 = sp + 257 by omega]; exact hlo) (by rw [show sp + 2 + 256 = sp + 258 by omega]; exact hhi) hh0 hk hk0 hk1 (by have := H.len; omega)
end
end Mine
/-! text P2 -/
open PySem PySem.W PyProof.Rows PySem.Spec PySem.Calls
set_option Elab.async false
set_option maxRecDepth 100000
set_option maxHeartbeats 0
namespace Mine
/-! the subroutine -/
theorem ns {o k : Int} (h : k < 80) : o + k ≠ stopO o := by rw [stopO_eq]; omega
theorem get_set {mem : List Int} {i j v : Int} (hi : 0 ≤ i) (hj : 0 ≤ j) (h : j < mem.length) : get (mem.set j.toNat v) i = if i = j then v else get mem i := by
  unfold get
  rw [List.getD_eq_getElem?_getD, List.getD_eq_getElem?_getD]
  by_cases e : i = j
  · subst e
    rw [if_pos rfl, List.getElem?_set_self (by omega)]
    rfl
  · rw [if_neg e, List.getElem?_set_ne (by omega)]
/-- the two memories agree outside of the ten octets up to s -/
structure Agr (mem mem' : List Int) (s : Int) : Prop where
  len : mem'.length = mem.length
  eq : ∀ i : Int, 0 ≤ i → (i < 502 ∨ s < i) → get mem' i = get mem i
theorem Agr.refl (mem : List Int) (s : Int) : Agr mem mem s := ⟨rfl, fun _ _ _ => rfl⟩
theorem Agr.trans {a b c : List Int} {s s' u : Int} (h : Agr a b s) (g : Agr b c s') (h1 : s ≤ u) (h2 : s' ≤ u) : Agr a c u :=
  ⟨g.len.trans h.len, fun i h0 hi => (g.eq i h0 (by omega)).trans (h.eq i h0 (by omega))⟩
theorem Agr.set {a b : List Int} {s k v : Int} (h : Agr a b s) (h0 : 502 ≤ k) (h1 : k ≤ s) (h2 : k < a.length) : Agr a (b.set k.toNat v) s :=
  ⟨(List.length_set ..).trans h.len, fun i hi hs => by rw [get_set hi (by omega) (by rw [h.len]; exact h2), if_neg (by omega)]; exact h.eq i hi hs⟩
theorem MemOk.agr {o : Int} {P T a b : List Int} {s : Int} (H : MemOk o P T a) (A : Agr a b s) (hs : s ≤ 511) : MemOk o P T b := by
  have ho := H.ho
  exact ⟨H.ho, A.len.trans H.len, fun k h0 h1 => (A.eq _ (by omega) (by omega)).trans (H.code k h0 h1), fun i hi => (A.eq _ (by omega) (by omega)).trans (H.pats i hi), fun i hi => (A.eq _ (by omega) (by omega)).trans (H.txts i hi), H.pv, H.tv⟩
theorem Run.to {e : Int} {n : Nat} {m a b : M} (h : Run e n m a) (q : a = b) : Run e n m b := q ▸ h
/-- where the subroutine goes back to -/
structure Ret (mem : List Int) (sp r : Int) : Prop where
  hh : 0 ≤ get mem (sp + 258) ∧ get mem (sp + 258) < 256
  hk : get mem (sp + 257) + get mem (sp + 258) * 256 + 1 = r
  k0 : 0 ≤ r
  k1 : r < 65536
  s0 : 0 ≤ sp
  s1 : sp ≤ 253
theorem Ret.agr {a b : List Int} {sp r s : Int} (R : Ret a sp r) (A : Agr a b s) (hs : s ≤ sp + 256) : Ret b sp r := by
  have e1 := A.eq (sp + 257) (by have := R.s0; omega) (by omega)
  have e2 := A.eq (sp + 258) (by have := R.s0; omega) (by omega)
  exact ⟨by rw [e2]; exact R.hh, by rw [e1, e2]; exact R.hk, R.k0, R.k1, R.s0, R.s1⟩
/-! what it computes -/
noncomputable def suf (f : List Int → Bool) : List Int → Bool
  | [] => f []
  | c :: t => f (c :: t) || suf f t
noncomputable def mt : List Int → List Int → Bool
  | [], t => t.isEmpty
  | s :: p, t => if s = 42 then suf (mt p) t else match t with
    | [] => false
    | c :: t => (s == 63 || s == c) && mt p t
noncomputable def fstS (f : List Int → Bool) : List Int → Nat
  | [] => 0
  | c :: t => if f (c :: t) then 0 else fstS f t + 1
noncomputable def en : List Int → List Int → Nat × Nat
  | [], _ => (0, 0)
  | s :: p, t => if s = 42 then (0, fstS (mt p) t) else match t with
    | [] => (0, 0)
    | c :: t => if (s == 63 || s == c) = true then ((en p t).1 + 1, (en p t).2 + 1) else (0, 0)
noncomputable def cos (f : List Int → Nat) : List Int → Nat
  | [] => 22 + f []
  | c :: t => 22 + f (c :: t) + cos f t
noncomputable def co : List Int → List Int → Nat
  | [], _ => 8
  | s :: p, t => if s = 42 then cos (co p) t else match t with
    | [] => 15
    | _ :: t => 15 + co p t
noncomputable def stars : List Int → Nat
  | [] => 0
  | s :: p => (if s = 42 then 1 else 0) + stars p
section
variable {o : Int} {P T mem : List Int} {a x y sp r : Int} {n z c : Bool}
noncomputable def Fin (e : Int) (N : Nat) (m : M) (x y sp : Int) (c : Bool) (r : Int) (mem : List Int) : Prop := ∃ a n z, Run e N m ⟨a, x, y, sp, Pf n z c, r, mem⟩
theorem m_fail (H : MemOk o P T mem) (R : Ret mem sp r) : Run (stopO o) 2 ⟨a, x, y, sp, Pf n z c, o + 76, mem⟩ ⟨a, x, y, sp + 2, Pf n z false, r, mem⟩ :=
  .cons (i76 H) (ns (by decide)) (.cons (i77 H R.s0 R.s1 rfl rfl R.hh R.hk R.k0 R.k1) (ns (by decide)) .nil)
theorem m_out (H : MemOk o P T mem) (R : Ret mem sp r) : Run (stopO o) 1 ⟨a, x, y, sp, Pf n z c, o + 79, mem⟩ ⟨a, x, y, sp + 2, Pf n z c, r, mem⟩ :=
  .cons (i79 H R.s0 R.s1 rfl rfl R.hh R.hk R.k0 R.k1) (ns (by decide)) .nil
theorem m_end (H : MemOk o P T mem) (R : Ret mem sp r) (i j : Nat) (hi : i ≤ 5) (hj : j ≤ 4) (e : P.getD i 0 = 0) : Fin (stopO o) 6 ⟨a, i, j, sp, Pf n z c, o + 15, mem⟩ i j (sp + 2) (T.getD j 0 == 0) r mem := by
  cases q : T.getD j 0 == 0
  · exact ⟨_, _, _, .cons (i15 H i hi) (ns (by decide)) (.cons (t18 H (beq_iff_eq.mpr e)) (ns (by decide)) (.cons (i71 H j hj) (ns (by decide)) (.cons (n74 H q) (ns (by decide)) (m_fail H R))))⟩
  · exact ⟨_, _, _, .cons (i15 H i hi) (ns (by decide)) (.cons (t18 H (beq_iff_eq.mpr e)) (ns (by decide)) (.cons (i71 H j hj) (ns (by decide)) (.cons (t74 H q) (ns (by decide)) (.cons (i78 H) (ns (by decide)) (m_out H R)))))⟩
theorem bne0 {v k : Int} (h : v ≠ k) : (v == k) = false := by simpa using h
theorem m_any0 (H : MemOk o P T mem) (R : Ret mem sp r) (i j : Nat) (hi : i ≤ 5) (hj : j ≤ 4) (e : P.getD i 0 = 63) (q : T.getD j 0 = 0) : Fin (stopO o) 10 ⟨a, i, j, sp, Pf n z c, o + 15, mem⟩ i j (sp + 2) false r mem :=
  ⟨_, _, _, .cons (i15 H i hi) (ns (by decide)) (.cons (n18 H (bne0 (by rw [e]; decide))) (ns (by decide)) (.cons (i20 H (H.pv i)) (ns (by decide)) (.cons (n22 H (bne0 (by rw [e]; decide))) (ns (by decide)) (.cons (i24 H (H.pv i)) (ns (by decide)) (.cons (t26 H (beq_iff_eq.mpr e)) (ns (by decide)) (.cons (i38 H j hj) (ns (by decide)) (.cons (t41 H (beq_iff_eq.mpr q)) (ns (by decide)) (m_fail H R))))))))⟩
theorem m_any1 (H : MemOk o P T mem) (i j : Nat) (hi : i ≤ 5) (hj : j ≤ 4) (e : P.getD i 0 = 63) (q : T.getD j 0 ≠ 0) : ∃ a' n' z' c', Run (stopO o) 11 ⟨a, i, j, sp, Pf n z c, o + 15, mem⟩ ⟨a', ((i + 1 : Nat) : Int), ((j + 1 : Nat) : Int), sp, Pf n' z' c', o + 15, mem⟩ :=
  ⟨_, _, _, _, .cons (i15 H i hi) (ns (by decide)) (.cons (n18 H (bne0 (by rw [e]; decide))) (ns (by decide)) (.cons (i20 H (H.pv i)) (ns (by decide)) (.cons (n22 H (bne0 (by rw [e]; decide))) (ns (by decide)) (.cons (i24 H (H.pv i)) (ns (by decide)) (.cons (t26 H (beq_iff_eq.mpr e)) (ns (by decide)) (.cons (i38 H j hj) (ns (by decide)) (.cons (n41 H (bne0 q)) (ns (by decide)) (.cons (i43 H i hi) (ns (by decide)) (.cons (i44 H j hj) (ns (by decide)) (.cons (i45 H) (ns (by decide)) .nil))))))))))⟩
theorem m_let0 (H : MemOk o P T mem) (R : Ret mem sp r) (i j : Nat) (hi : i ≤ 5) (hj : j ≤ 4) (e0 : P.getD i 0 ≠ 0) (e1 : P.getD i 0 ≠ 42) (e2 : P.getD i 0 ≠ 63) (q : P.getD i 0 ≠ T.getD j 0) : Fin (stopO o) 10 ⟨a, i, j, sp, Pf n z c, o + 15, mem⟩ i j (sp + 2) false r mem :=
  ⟨_, _, _, .cons (i15 H i hi) (ns (by decide)) (.cons (n18 H (bne0 e0)) (ns (by decide)) (.cons (i20 H (H.pv i)) (ns (by decide)) (.cons (n22 H (bne0 e1)) (ns (by decide)) (.cons (i24 H (H.pv i)) (ns (by decide)) (.cons (n26 H (bne0 e2)) (ns (by decide)) (.cons (i28 H j hj (H.pv i)) (ns (by decide)) (.cons (t31 H (bne0 q)) (ns (by decide)) (m_fail H R))))))))⟩
theorem m_let1 (H : MemOk o P T mem) (i j : Nat) (hi : i ≤ 5) (hj : j ≤ 4) (e0 : P.getD i 0 ≠ 0) (e1 : P.getD i 0 ≠ 42) (e2 : P.getD i 0 ≠ 63) (q : P.getD i 0 = T.getD j 0) : ∃ a' n' z' c', Run (stopO o) 11 ⟨a, i, j, sp, Pf n z c, o + 15, mem⟩ ⟨a', ((i + 1 : Nat) : Int), ((j + 1 : Nat) : Int), sp, Pf n' z' c', o + 15, mem⟩ :=
  ⟨_, _, _, _, .cons (i15 H i hi) (ns (by decide)) (.cons (n18 H (bne0 e0)) (ns (by decide)) (.cons (i20 H (H.pv i)) (ns (by decide)) (.cons (n22 H (bne0 e1)) (ns (by decide)) (.cons (i24 H (H.pv i)) (ns (by decide)) (.cons (n26 H (bne0 e2)) (ns (by decide)) (.cons (i28 H j hj (H.pv i)) (ns (by decide)) (.cons (n31 H (beq_iff_eq.mpr q)) (ns (by decide)) (.cons (i33 H i hi) (ns (by decide)) (.cons (i34 H j hj) (ns (by decide)) (.cons (i35 H) (ns (by decide)) .nil))))))))))⟩
/-- the memory when a run of the star is tried -/
noncomputable def pushM (o : Int) (mem : List Int) (sp i j : Int) : List Int := (((mem.set (sp + 256).toNat i).set (sp - 1 + 256).toNat j).set (sp - 1 - 1 + 256).toNat ((o + 53 + 2) / 256)).set (sp - 1 - 1 - 1 + 256).toNat ((o + 53 + 2) % 256)
theorem a502 {sp : Int} (h : 249 ≤ sp) : 502 ≤ sp + 256 := by omega
theorem a502' {sp : Int} (h : 249 ≤ sp) : 502 ≤ sp - 1 + 256 := by omega
theorem a511 {sp : Int} (h : sp ≤ 253) : sp + 256 ≤ 511 := by omega
theorem a511' (sp : Int) : sp - 1 + 256 ≤ sp + 256 := by omega
theorem a1088 {sp : Int} {m : List Int} (h : m.length = 1088) (h1 : sp ≤ 253) : sp + 256 < m.length := by omega
theorem a1088' {sp : Int} {m : List Int} (h : m.length = 1088) (h1 : sp ≤ 253) : sp - 1 + 256 < m.length := by omega
theorem n256 {i : Nat} (h : i ≤ 5) : (i : Int) < 256 := by omega
theorem spa1 {sp : Int} (h : 249 ≤ sp) : 1 ≤ sp - 1 := by omega
theorem spb1 {sp : Int} (h : sp ≤ 253) : sp - 1 ≤ 255 := by omega
theorem spa2 {sp : Int} (h : 249 ≤ sp) : 2 ≤ sp - 1 - 1 := by omega
theorem spb2 {sp : Int} (h : sp ≤ 253) : sp - 1 - 1 ≤ 255 := by omega
theorem spd4 (sp : Int) : sp - 1 - 1 - 2 = sp - 4 := by omega
theorem m_star (H : MemOk o P T mem) (i j : Nat) (hi : i ≤ 5) (hj : j ≤ 4) (e : P.getD i 0 = 42) (hs : 249 ≤ sp) (hs1 : sp ≤ 253) : ∃ a' n' z' c', Run (stopO o) 10 ⟨a, i, j, sp, Pf n z c, o + 15, mem⟩ ⟨a', ((i + 1 : Nat) : Int), j, sp - 4, Pf n' z' c', o + 15, pushM o mem sp i j⟩ := by
  have hl := H.len
  have A1 : Agr mem (mem.set (sp + 256).toNat (i : Int)) (sp + 256) := (Agr.refl _ _).set (a502 hs) (Int.le_refl _) (a1088 hl hs1)
  have A2 : Agr mem ((mem.set (sp + 256).toNat (i : Int)).set (sp - 1 + 256).toNat (j : Int)) (sp + 256) := A1.set (a502' hs) (a511' sp) (a1088' hl hs1)
  have H1 := H.agr A1 (a511 hs1)
  have H2 := H.agr A2 (a511 hs1)
  exact ⟨_, _, _, _, .to (.cons (i15 H i hi) (ns (by decide)) (.cons (n18 H (bne0 (by rw [e]; decide))) (ns (by decide)) (.cons (i20 H (H.pv i)) (ns (by decide)) (.cons (t22 H (beq_iff_eq.mpr e)) (ns (by decide)) (.cons (i48 H (Int.natCast_nonneg _) (n256 hi)) (ns (by decide)) (.cons (i49 H (Int.natCast_nonneg _) (n256 hi) (Int.le_trans (by decide) hs) (Int.le_trans hs1 (by decide))) (ns (by decide)) (.cons (i50 H1 (Int.natCast_nonneg _) (n256 (Nat.le_succ_of_le hj))) (ns (by decide)) (.cons (i51 H1 (Int.natCast_nonneg _) (n256 (Nat.le_succ_of_le hj)) (spa1 hs) (spb1 hs1)) (ns (by decide)) (.cons (i52 H2 i hi) (ns (by decide)) (.cons (i53 H2 (spa2 hs) (spb2 hs1)) (ns (by decide)) .nil)))))))))) (mk_eq rfl rfl rfl (spd4 sp) rfl rfl rfl)⟩
theorem m_pull (H : MemOk o P T mem) (i j : Nat) (hi : i ≤ 5) (hj : j ≤ 4) (hs : 249 ≤ sp) (hs1 : sp ≤ 253) (gj : get mem (sp + 255) = j) (gi : get mem (sp + 256) = i) : ∃ a' n' z', Run (stopO o) 4 ⟨a, x, y, sp - 4 + 2, Pf n z c, o + 56, mem⟩ ⟨a', i, j, sp, Pf n' z' c, o + 60, mem⟩ := by
  exact ⟨_, _, _, .to (.cons (i56 H (by rw [show sp - 4 + 2 + 1 + 256 = sp + 255 by omega]; exact gj) (by omega) (by omega) (by omega) (by omega)) (ns (by decide)) (.cons (i57 H (by omega) (by omega)) (ns (by decide)) (.cons (i58 H (by rw [show sp - 4 + 2 + 1 + 1 + 256 = sp + 256 by omega]; exact gi) (by omega) (by omega) (by omega) (by omega)) (ns (by decide)) (.cons (i59 H (by omega) (by omega)) (ns (by decide)) .nil)))) (mk_eq rfl rfl rfl (by omega) rfl rfl rfl)⟩
end
end Mine
/-! text P3 -/
open PySem PySem.W PyProof.Rows PySem.Spec PySem.Calls
set_option Elab.async false
set_option maxRecDepth 100000
set_option maxHeartbeats 0
namespace Mine
/-! the subroutine: what it comes to, by induction -/
section
variable {o : Int} {P T : List Int}
theorem drop_cons {l : List Int} {i : Nat} {s : Int} {p : List Int} (h : l.drop i = s :: p) : l.getD i 0 = s ∧ i < l.length ∧ l.drop (i + 1) = p := by
  have hl : i < l.length := by
    by_cases q : i < l.length
    · exact q
    · rw [List.drop_eq_nil_of_le (by omega)] at h
      exact nomatch h
  rw [List.drop_eq_getElem_cons hl] at h
  injection h with h1 h2
  refine ⟨?_, hl, h2⟩
  rw [List.getD_eq_getElem?_getD, List.getElem?_eq_getElem hl]
  exact h1
theorem drop_nil {l : List Int} {i : Nat} (h : l.drop i = []) : l.getD i 0 = 0 := by
  have := List.drop_eq_nil_iff.mp h
  rw [List.getD_eq_getElem?_getD, List.getElem?_eq_none this]
  rfl
structure Cfg (P T : List Int) : Prop where
  pl : P.length ≤ 5
  tl : T.length ≤ 4
  ps : ∀ s ∈ P, s = 97 ∨ s = 98 ∨ s = 63 ∨ s = 42
  ts : ∀ c ∈ T, c = 97 ∨ c = 98
theorem mem_of_drop {l : List Int} {i : Nat} {s : Int} {p : List Int} (h : l.drop i = s :: p) : s ∈ l := List.mem_of_mem_drop (h ▸ List.mem_cons_self)
inductive Res (o : Int) (b : Nat) (m₀ : M) (mem : List Int) (s x y sp : Int) (c : Bool) (r : Int) : Prop
  | mk (N : Nat) (a' : Int) (n' z' : Bool) (mem' : List Int) (hN : N ≤ b) (A : Agr mem mem' s) (g : Run (stopO o) N m₀ ⟨a', x, y, sp, Pf n' z' c, r, mem'⟩) : Res o b m₀ mem s x y sp c r
noncomputable def Goal (o : Int) (P T p t : List Int) (i j : Nat) : Prop := ∀ (a sp r : Int) (n z c : Bool) (mem : List Int), MemOk o P T mem → Ret mem sp r → 245 + 4 * (stars p : Int) ≤ sp → Res o (co p t) ⟨a, i, j, sp, Pf n z c, o + 15, mem⟩ mem (sp + 256) ((i + (en p t).1 : Nat) : Int) ((j + (en p t).2 : Nat) : Int) (sp + 2) (mt p t) (r)
theorem goal_nil (C : Cfg P T) (t : List Int) (i j : Nat) (hp : P.drop i = []) (ht : T.drop j = t) (hi : i ≤ 5) (hj : j ≤ 4) : Goal o P T [] t i j := by
  intro a sp r n z c mem H R _
  obtain ⟨a', n', z', g⟩ := m_end (a := a) (n := n) (z := z) (c := c) H R i j hi hj (drop_nil hp)
  have e : (T.getD j 0 == 0) = t.isEmpty := by
    cases t with
    | nil => rw [drop_nil ht]; rfl
    | cons k t =>
      rw [(drop_cons ht).1]
      have := C.ts k (mem_of_drop ht)
      exact bne0 (by omega)
  rw [e] at g
  exact ⟨6, a', n', z', mem, by unfold co; omega, Agr.refl _ _, g⟩
theorem ad15 {N c : Nat} (h : N ≤ c) : N + 11 ≤ 15 + c := by omega
theorem sg_ne0 {s : Int} (h : s = 97 ∨ s = 98 ∨ s = 63 ∨ s = 42) : s ≠ 0 := by rcases h with rfl | rfl | rfl | rfl <;> decide
theorem tx_ne0 {s : Int} (h : s = 97 ∨ s = 98) : s ≠ 0 := by rcases h with rfl | rfl <;> decide
theorem goal_any (C : Cfg P T) (p : List Int) (ih : ∀ (t : List Int) (i j : Nat), P.drop i = p → T.drop j = t → i ≤ 5 → j ≤ 4 → Goal o P T p t i j) (t : List Int) (i j : Nat) (hp : P.drop i = 63 :: p) (ht : T.drop j = t) (hi : i ≤ 5) (hj : j ≤ 4) : Goal o P T (63 :: p) t i j := by
  intro a sp r n z c mem H R hs
  obtain ⟨e, hl, hd⟩ := drop_cons hp
  have hpl := C.pl
  have htl := C.tl
  cases t with
  | nil =>
    obtain ⟨a', n', z', g⟩ := m_any0 (a := a) (n := n) (z := z) (c := c) H R i j hi hj e (drop_nil ht)
    exact ⟨10, a', n', z', mem, by simp [co], Agr.refl _ _, g⟩
  | cons k t =>
    obtain ⟨e2, hl2, hd2⟩ := drop_cons ht
    have hk := C.ts k (mem_of_drop ht)
    obtain ⟨a', n', z', c', g⟩ := m_any1 (a := a) (n := n) (z := z) (c := c) (sp := sp) H i j hi hj e (by rw [e2]; exact tx_ne0 hk)
    obtain ⟨N, a2, n2, z2, mem2, hN, A, g2⟩ := ih t (i + 1) (j + 1) hd hd2 (Nat.le_trans hl hpl) (Nat.le_trans hl2 htl) a' sp r n' z' c' mem H R (by simpa [stars] using hs)
    refine ⟨N + 11, a2, n2, z2, mem2, ?_, A, ?_⟩
    · have e3 : co (63 :: p) (k :: t) = 15 + co p t := by simp [co]
      rw [e3]; exact ad15 hN
    · have w := g.app g2
      simpa [en, mt, Nat.add_assoc, Nat.add_comm 1] using w
theorem goal_let (C : Cfg P T) (s : Int) (p : List Int) (h1 : s ≠ 42) (h2 : s ≠ 63) (ih : ∀ (t : List Int) (i j : Nat), P.drop i = p → T.drop j = t → i ≤ 5 → j ≤ 4 → Goal o P T p t i j) (t : List Int) (i j : Nat) (hp : P.drop i = s :: p) (ht : T.drop j = t) (hi : i ≤ 5) (hj : j ≤ 4) : Goal o P T (s :: p) t i j := by
  intro a sp r n z c mem H R hs
  obtain ⟨e, hl, hd⟩ := drop_cons hp
  have hs0 := C.ps s (mem_of_drop hp)
  have hpl := C.pl
  have htl := C.tl
  have n0 : P.getD i 0 ≠ 0 := by rw [e]; exact sg_ne0 hs0
  have n1 : P.getD i 0 ≠ 42 := by rw [e]; exact h1
  have n2 : P.getD i 0 ≠ 63 := by rw [e]; exact h2
  cases t with
  | nil =>
    obtain ⟨a', n', z', g⟩ := m_let0 (a := a) (n := n) (z := z) (c := c) H R i j hi hj (by omega) (by omega) (by omega) (by rw [drop_nil ht]; omega)
    refine ⟨10, a', n', z', mem, by simp [co, h1], Agr.refl _ _, ?_⟩
    simpa [en, mt, h1] using g
  | cons k t =>
    obtain ⟨e2, hl2, hd2⟩ := drop_cons ht
    by_cases q : s = k
    · obtain ⟨a', n', z', c', g⟩ := m_let1 (a := a) (n := n) (z := z) (c := c) (sp := sp) H i j hi hj n0 n1 n2 (by rw [e, e2]; exact q)
      obtain ⟨N, a2, n2, z2, mem2, hN, A, g2⟩ := ih t (i + 1) (j + 1) hd hd2 (Nat.le_trans hl hpl) (Nat.le_trans hl2 htl) a' sp r n' z' c' mem H R (by simpa [stars, h1] using hs)
      refine ⟨N + 11, a2, n2, z2, mem2, ?_, A, ?_⟩
      · have e3 : co (s :: p) (k :: t) = 15 + co p t := by simp [co, h1]
        rw [e3]; exact ad15 hN
      · have w := g.app g2
        simpa [en, mt, h1, q ▸ h1, q, Nat.add_assoc, Nat.add_comm 1] using w
    · obtain ⟨a', n', z', g⟩ := m_let0 (a := a) (n := n) (z := z) (c := c) H R i j hi hj (by omega) (by omega) (by omega) (by omega)
      refine ⟨10, a', n', z', mem, by simp only [co, h1, if_false]; exact Nat.le_trans (by decide) (Nat.le_add_right 15 _), Agr.refl _ _, ?_⟩
      simpa [en, mt, h1, bne0 h2, bne0 q] using g
theorem push_agr {mem : List Int} {sp : Int} (i j : Int) (hl : mem.length = 1088) (hs : 249 ≤ sp) (hs1 : sp ≤ 253) : Agr mem (pushM o mem sp i j) (sp + 256) :=
  ((((Agr.refl mem (sp + 256)).set (by omega) (by omega) (by omega)).set (by omega) (by omega) (by omega)).set (by omega) (by omega) (by omega)).set (by omega) (by omega) (by omega)
theorem push_get {mem : List Int} {sp : Int} (i j : Int) (hl : mem.length = 1088) (hs : 249 ≤ sp) (hs1 : sp ≤ 253) : get (pushM o mem sp i j) (sp + 256) = i ∧ get (pushM o mem sp i j) (sp + 255) = j ∧ get (pushM o mem sp i j) (sp + 254) = (o + 53 + 2) / 256 ∧ get (pushM o mem sp i j) (sp + 253) = (o + 53 + 2) % 256 := by
  unfold pushM
  refine ⟨?_, ?_, ?_, ?_⟩
  · rw [get_set (by omega) (by omega) (by simp only [List.length_set]; omega), if_neg (by omega), get_set (by omega) (by omega) (by simp only [List.length_set]; omega), if_neg (by omega), get_set (by omega) (by omega) (by simp only [List.length_set]; omega), if_neg (by omega), get_set (by omega) (by omega) (by omega), if_pos rfl]
  · rw [get_set (by omega) (by omega) (by simp only [List.length_set]; omega), if_neg (by omega), get_set (by omega) (by omega) (by simp only [List.length_set]; omega), if_neg (by omega), get_set (by omega) (by omega) (by simp only [List.length_set]; omega), if_pos (by omega)]
  · rw [get_set (by omega) (by omega) (by simp only [List.length_set]; omega), if_neg (by omega), get_set (by omega) (by omega) (by simp only [List.length_set]; omega), if_pos (by omega)]
  · rw [get_set (by omega) (by omega) (by simp only [List.length_set]; omega), if_pos (by omega)]
theorem ret_push {o sp : Int} {mem1 : List Int} (ho : 512 ≤ o ∧ o ≤ 767) (hs0 : 249 ≤ sp) (hs1 : sp ≤ 253) (q3 : get mem1 (sp + 254) = (o + 53 + 2) / 256) (q4 : get mem1 (sp + 253) = (o + 53 + 2) % 256) : Ret mem1 (sp - 4) (o + 56) := by
  have e1 : sp - 4 + 258 = sp + 254 := by omega
  have e2 : sp - 4 + 257 = sp + 253 := by omega
  refine ⟨?_, ?_, by omega, by omega, by omega, by omega⟩
  · rw [e1, q3]; omega
  · rw [e1, e2, q3, q4]; omega
theorem agr_at {a b : List Int} {sp : Int} (A : Agr a b (sp - 4 + 256)) (h : 249 ≤ sp) : get b (sp + 255) = get a (sp + 255) ∧ get b (sp + 256) = get a (sp + 256) := ⟨A.eq _ (by omega) (by omega), A.eq _ (by omega) (by omega)⟩
/-- a run of the star is tried: the machine comes back with the answer and the places -/
theorem goal_try (C : Cfg P T) (p : List Int) (ih : ∀ (t : List Int) (i j : Nat), P.drop i = p → T.drop j = t → i ≤ 5 → j ≤ 4 → Goal o P T p t i j) (t : List Int) (i j : Nat) (hp : P.drop i = 42 :: p) (ht : T.drop j = t) (hi : i ≤ 5) (hj : j ≤ 4) (a sp : Int) (n z c : Bool) (mem : List Int) (H : MemOk o P T mem) (hs : 245 + 4 * (stars (42 :: p) : Int) ≤ sp) (hs1 : sp ≤ 253) : Res o (co p t + 14) ⟨a, i, j, sp, Pf n z c, o + 15, mem⟩ mem (sp + 256) i j (sp) (mt p t) (o + 60) := by
  obtain ⟨e, hl, hd⟩ := drop_cons hp
  have hpl := C.pl
  have ho := H.ho
  have hst : (stars (42 :: p) : Int) = 1 + stars p := by simp [stars]
  have hs0 : 249 ≤ sp := by omega
  obtain ⟨a1, n1, z1, c1, g1⟩ := m_star (a := a) (n := n) (z := z) (c := c) H i j hi hj e hs0 hs1
  have A1 := push_agr (o := o) (sp := sp) (i : Int) (j : Int) H.len hs0 hs1
  obtain ⟨q1, q2, q3, q4⟩ := push_get (o := o) (sp := sp) (i : Int) (j : Int) H.len hs0 hs1
  generalize pushM o mem sp i j = mem1 at *
  have H1 := H.agr A1 (by omega)
  have R1 : Ret mem1 (sp - 4) (o + 56) := ret_push ho hs0 hs1 q3 q4
  obtain ⟨N, a2, n2, z2, mem2, hN, A2, g2⟩ := ih t (i + 1) j hd ht (Nat.le_trans hl hpl) hj a1 (sp - 4) (o + 56) n1 z1 c1 mem1 H1 R1 (by omega)
  have H2 := H1.agr A2 (by omega)
  obtain ⟨a3, n3, z3, g3⟩ := m_pull (a := a2) (x := ((i + 1 + (en p t).1 : Nat) : Int)) (y := ((j + (en p t).2 : Nat) : Int)) (n := n2) (z := z2) (c := mt p t) H2 i j hi hj hs0 hs1 ((agr_at A2 hs0).1.trans q2) ((agr_at A2 hs0).2.trans q1)
  exact ⟨4 + (N + 10), a3, n3, z3, mem2, by omega, A1.trans A2 (by omega) (by omega), (g1.app g2).app g3⟩
theorem goal_star (C : Cfg P T) (p : List Int) (ih : ∀ (t : List Int) (i j : Nat), P.drop i = p → T.drop j = t → i ≤ 5 → j ≤ 4 → Goal o P T p t i j) : ∀ (t : List Int) (i j : Nat), P.drop i = 42 :: p → T.drop j = t → i ≤ 5 → j ≤ 4 → Goal o P T (42 :: p) t i j := by
  have htl := C.tl
  have out : ∀ (t : List Int) (i j : Nat), P.drop i = 42 :: p → T.drop j = t → i ≤ 5 → j ≤ 4 → mt p t = true → ∀ (a sp r : Int) (n z c : Bool) (mem : List Int), MemOk o P T mem → Ret mem sp r → 245 + 4 * (stars (42 :: p) : Int) ≤ sp → Res o (co p t + 16) ⟨a, i, j, sp, Pf n z c, o + 15, mem⟩ mem (sp + 256) i j (sp + 2) true (r) := by
    intro t i j hp ht hi hj hm a sp r n z c mem H R hs
    obtain ⟨N, a1, n1, z1, mem1, hN, A, g⟩ := goal_try C p ih t i j hp ht hi hj a sp n z c mem H hs R.s1
    have hs1 := R.s1
    have H1 := H.agr A (by omega)
    rw [hm] at g
    exact ⟨2 + N, a1, n1, z1, mem1, by omega, A, g.app (.cons (t60 H1 rfl) (ns (by decide)) (m_out H1 (R.agr A (by omega))))⟩
  intro t
  induction t with
  | nil =>
    intro i j hp ht hi hj a sp r n z c mem H R hs
    cases hm : mt p [] with
    | true =>
      obtain ⟨N, a', n', z', mem', hN, A, g⟩ := out [] i j hp ht hi hj hm a sp r n z c mem H R hs
      refine ⟨N, a', n', z', mem', by simp [co, cos]; omega, A, ?_⟩
      simpa [en, mt, suf, fstS, hm] using g
    | false =>
      obtain ⟨N, a1, n1, z1, mem1, hN, A, g⟩ := goal_try C p ih [] i j hp ht hi hj a sp n z c mem H hs R.s1
      have hs1 := R.s1
      have H1 := H.agr A (by omega)
      rw [hm] at g
      have w := g.app (.cons (n60 H1 rfl) (ns (by decide)) (.cons (i62 H1 j hj) (ns (by decide)) (.cons (t65 H1 (beq_iff_eq.mpr (drop_nil ht))) (ns (by decide)) (m_fail H1 (R.agr A (by omega))))))
      have e1 : mt (42 :: p) [] = false := by simpa [mt, suf] using hm
      have e2 : en (42 :: p) [] = (0, 0) := by simp [en, fstS]
      have e3 : co (42 :: p) [] = 22 + co p [] := by simp [co, cos]
      rw [e1, e2, e3]
      exact ⟨_, _, _, _, mem1, by omega, A, w⟩
  | cons k t iht =>
    intro i j hp ht hi hj a sp r n z c mem H R hs
    obtain ⟨e2, hl2, hd2⟩ := drop_cons ht
    have hk := C.ts k (mem_of_drop ht)
    cases hm : mt p (k :: t) with
    | true =>
      obtain ⟨N, a', n', z', mem', hN, A, g⟩ := out (k :: t) i j hp ht hi hj hm a sp r n z c mem H R hs
      refine ⟨N, a', n', z', mem', by simp [co, cos]; omega, A, ?_⟩
      simpa [en, mt, suf, fstS, hm] using g
    | false =>
      obtain ⟨N, a1, n1, z1, mem1, hN, A, g⟩ := goal_try C p ih (k :: t) i j hp ht hi hj a sp n z c mem H hs R.s1
      have hs1 := R.s1
      have H1 := H.agr A (by omega)
      rw [hm] at g
      have w := g.app (.cons (n60 H1 rfl) (ns (by decide)) (.cons (i62 H1 j hj) (ns (by decide)) (.cons (n65 H1 (bne0 (by omega))) (ns (by decide)) (.cons (i67 H1 j hj) (ns (by decide)) (.cons (i68 H1) (ns (by decide)) .nil)))))
      obtain ⟨N2, a2, n2, z2, mem2, hN2, A2, g2⟩ := iht i (j + 1) hp hd2 hi (by omega) _ sp r _ _ _ mem1 H1 (R.agr A (by omega)) hs
      have e1 : mt (42 :: p) (k :: t) = mt (42 :: p) t := by simp [mt, suf, hm]
      have e2 : en (42 :: p) (k :: t) = (0, (en (42 :: p) t).2 + 1) := by simp [en, fstS, hm]
      have e4 : (en (42 :: p) t).1 = 0 := by simp [en]
      have e3 : co (42 :: p) (k :: t) = 22 + co p (k :: t) + co (42 :: p) t := by simp [co, cos]
      rw [e1, e2, e3]
      rw [e4] at g2
      rw [show j + ((en (42 :: p) t).2 + 1) = j + 1 + (en (42 :: p) t).2 by omega]
      exact ⟨_, a2, n2, z2, mem2, by omega, A.trans A2 (by omega) (by omega), w.app g2⟩
theorem goal (C : Cfg P T) : ∀ (p t : List Int) (i j : Nat), P.drop i = p → T.drop j = t → i ≤ 5 → j ≤ 4 → Goal o P T p t i j
  | [] => fun t i j hp ht hi hj => goal_nil C t i j hp ht hi hj
  | s :: p => by
    have ih : ∀ (t : List Int) (i j : Nat), P.drop i = p → T.drop j = t → i ≤ 5 → j ≤ 4 → Goal o P T p t i j := fun t => goal C p t
    intro t i j hp
    by_cases h1 : s = 42
    · subst h1; exact goal_star C p ih t i j hp
    · by_cases h2 : s = 63
      · subst h2; exact goal_any C p ih t i j hp
      · exact goal_let C s p h1 h2 ih t i j hp
end
end Mine
/-! text P4 -/
open PySem PySem.W PyProof.Rows PySem.Spec PySem.Calls
set_option Elab.async false
set_option maxRecDepth 100000
set_option maxHeartbeats 0
namespace Mine
/-! the whole run -/
theorem cos_le (f : List Int → Nat) (X : Nat) : ∀ t : List Int, (∀ u : List Int, u.length ≤ t.length → f u ≤ X) → cos f t ≤ (t.length + 1) * (22 + X)
  | [], h => by have := h [] (Nat.le_refl _); simp [cos]; omega
  | c :: t, h => by
    have h1 := h (c :: t) (Nat.le_refl _)
    have h2 := cos_le f X t (fun u hu => h u (Nat.le_succ_of_le hu))
    simp only [cos, List.length_cons]
    rw [Nat.succ_mul]
    omega
theorem co_le : ∀ (p t : List Int), t.length ≤ 4 → co p t ≤ 5 ^ stars p * (22 * p.length + 8)
  | [], t, _ => by simp [co, stars]
  | s :: p, t, h => by
    have ih := co_le p
    by_cases h1 : s = 42
    · subst h1
      have e : co (42 :: p) t = cos (co p) t := by simp [co]
      have e2 : stars (42 :: p) = stars p + 1 := by simp [stars, Nat.add_comm]
      have g := cos_le (co p) _ t (fun u hu => ih u (Nat.le_trans hu h))
      rw [e, e2, Nat.pow_succ, List.length_cons]
      have w : 1 ≤ 5 ^ stars p := Nat.one_le_pow _ _ (by omega)
      have e3 : 5 ^ stars p * 5 * (22 * (p.length + 1) + 8) = 5 * (5 ^ stars p * (22 * p.length + 8)) + 110 * 5 ^ stars p := by
        rw [show 22 * (p.length + 1) + 8 = (22 * p.length + 8) + 22 by omega, Nat.mul_add, Nat.mul_comm (5 ^ stars p) 5, Nat.mul_assoc 5, Nat.mul_assoc 5]
        omega
      rw [e3]
      generalize 5 ^ stars p * (22 * p.length + 8) = X at *
      refine Nat.le_trans g (Nat.le_trans (Nat.mul_le_mul_right _ (show t.length + 1 ≤ 5 by omega)) ?_)
      omega
    · have e2 : stars (s :: p) = stars p := by simp [stars, h1]
      have w : 1 ≤ 5 ^ stars p := Nat.one_le_pow _ _ (by omega)
      have e3 : 5 ^ stars p * (22 * (p.length + 1) + 8) = 5 ^ stars p * (22 * p.length + 8) + 22 * 5 ^ stars p := by
        rw [show 22 * (p.length + 1) + 8 = (22 * p.length + 8) + 22 by omega, Nat.mul_add]
        omega
      rw [e2, List.length_cons, e3]
      cases t with
      | nil => simp [co, h1]; omega
      | cons c t =>
        have := ih t (by simp at h; omega)
        simp [co, h1]; omega
noncomputable def b2i (b : Bool) : Int := match b with
  | true => 1
  | false => 0
theorem b2i_c (b : Bool) : (match b with | true => (1 : Int) | false => 0) = b2i b := by cases b <;> rfl
theorem b2i_1 (b : Bool) : (b2i b == 1) = b := by cases b <;> rfl
theorem get_elem {l : List Int} {i : Nat} (h : i < l.length) : l[i] = get l i := by
  unfold get
  rw [List.getD_eq_getElem?_getD, Int.toNat_natCast, List.getElem?_eq_getElem h]
  rfl
theorem agr_take {a b : List Int} {s v : Int} (A : Agr a b s) : (b.set 16 v).take 502 = (a.set 16 v).take 502 := by
  rw [List.take_set, List.take_set]
  refine congrArg (fun l => List.set l 16 v) ?_
  refine List.ext_getElem (by simp only [List.length_take, A.len]) fun i h1 h2 => ?_
  rw [List.getElem_take, List.getElem_take]
  simp only [List.length_take] at h1 h2
  rw [get_elem (by omega), get_elem (by omega)]
  exact A.eq i (by omega) (by omega)
theorem agr_drop {a b : List Int} {s v : Int} (A : Agr a b s) (hs : s ≤ 511) : (b.set 16 v).drop 512 = (a.set 16 v).drop 512 := by
  rw [List.drop_set_of_lt (by omega), List.drop_set_of_lt (by omega)]
  refine List.ext_getElem (by simp only [List.length_drop, A.len]) fun i h1 h2 => ?_
  rw [List.getElem_drop, List.getElem_drop]
  simp only [List.length_drop] at h1 h2
  rw [get_elem (by omega), get_elem (by omega)]
  exact A.eq _ (by omega) (by omega)
theorem MemOk.high {o : Int} {P T a b : List Int} (H : MemOk o P T a) (hl : b.length = a.length) (he : ∀ i : Int, 512 ≤ i → get b i = get a i) : MemOk o P T b := by
  have ho := H.ho
  exact ⟨H.ho, hl.trans H.len, fun k h0 h1 => (he _ (by omega)).trans (H.code k h0 h1), fun i hi => (he _ (by omega)).trans (H.pats i hi), fun i hi => (he _ (by omega)).trans (H.txts i hi), H.pv, H.tv⟩
section
variable {o : Int} {P T N : List Int}
theorem ret_main {o : Int} {mem1 : List Int} (ho : 512 ≤ o ∧ o ≤ 767) (q1 : get mem1 510 = (o + 4 + 2) % 256) (q2 : get mem1 511 = (o + 4 + 2) / 256) : Ret mem1 (255 - 2) (o + 7) := by
  have e1 : (255 - 2 + 258 : Int) = 511 := rfl
  have e2 : (255 - 2 + 257 : Int) = 510 := rfl
  refine ⟨?_, ?_, by omega, by omega, by decide, by decide⟩
  · rw [e1, q2]; omega
  · rw [e1, e2, q1, q2]; omega
theorem st_le {n : Nat} (h : n ≤ 2) : 245 + 4 * (n : Int) ≤ 255 - 2 := by omega
theorem ne16 {i : Int} (h : 512 ≤ i) : i ≠ 16 := by omega
theorem bnd_main {k c b : Nat} (h1 : k ≤ c) (h2 : c ≤ b) (h3 : b ≤ 25 * 118) : 4 + (k + 3) ≤ 4000 := by omega
theorem run_main (C : Cfg P T) (H : MemOk o P T N) (hst : stars P ≤ 2) : ∃ n m', n ≤ 4000 ∧ Run (stopO o) n ⟨0, 0, 0, 255, 48, o, N⟩ m' ∧ m'.pc = stopO o ∧ EndOk o (b2i (mt P T)) (en P T).1 (en P T).2 m' (N.set (16 : Int).toNat (b2i (mt P T))) := by
  have ho := H.ho
  have hl := H.len
  have A1 : Agr N ((N.set (255 + 256 : Int).toNat ((o + 4 + 2) / 256)).set (255 - 1 + 256 : Int).toNat ((o + 4 + 2) % 256)) 511 := ((Agr.refl N 511).set (by decide) (by decide) (by rw [hl]; decide)).set (by decide) (by decide) (by rw [hl]; decide)
  have q1 : get ((N.set (255 + 256 : Int).toNat ((o + 4 + 2) / 256)).set (255 - 1 + 256 : Int).toNat ((o + 4 + 2) % 256)) 510 = (o + 4 + 2) % 256 := by
    rw [get_set (by decide) (by decide) (by rw [List.length_set, hl]; decide), if_pos (by decide)]
  have q2 : get ((N.set (255 + 256 : Int).toNat ((o + 4 + 2) / 256)).set (255 - 1 + 256 : Int).toNat ((o + 4 + 2) % 256)) 511 = (o + 4 + 2) / 256 := by
    rw [get_set (by decide) (by decide) (by rw [List.length_set, hl]; decide), if_neg (by decide), get_set (by decide) (by decide) (by rw [hl]; decide), if_pos (by decide)]
  have g1 : ∃ n z c, Run (stopO o) 3 ⟨0, 0, 0, 255, Pf false false false, o + 0, N⟩ ⟨0, 0, 0, 255 - 2, Pf n z c, o + 15, (N.set (255 + 256 : Int).toNat ((o + 4 + 2) / 256)).set (255 - 1 + 256 : Int).toNat ((o + 4 + 2) % 256)⟩ :=
    ⟨_, _, _, .cons (i0 H) (ns (by decide)) (.cons (i2 H) (ns (by decide)) (.cons (i4 H (by decide) (by decide)) (ns (by decide)) .nil))⟩
  generalize (N.set (255 + 256 : Int).toNat ((o + 4 + 2) / 256)).set (255 - 1 + 256 : Int).toNat ((o + 4 + 2) % 256) = mem1 at *
  obtain ⟨n, z, c, g1⟩ := g1
  have H1 := H.agr A1 (by decide)
  have R1 : Ret mem1 (255 - 2) (o + 7) := ret_main ho q1 q2
  obtain ⟨k, a2, n2, z2, mem2, hk, A2, g2⟩ := goal C P T 0 0 rfl rfl (by decide) (by decide) 0 (255 - 2) (o + 7) n z c mem1 H1 R1 (st_le hst)
  rw [Nat.zero_add, Nat.zero_add] at g2
  have A := A1.trans A2 (u := 511) (by decide) (by decide)
  have H2 := H.agr A (by decide)
  have H3 : MemOk o P T (mem2.set 16 (b2i (mt P T))) := H2.high (List.length_set ..) fun i hi => by rw [show (16 : Nat) = (16 : Int).toNat from rfl, get_set (Int.le_trans (by decide) hi) (by decide) (by rw [H2.len]; decide), if_neg (ne16 hi)]
  have g3 : Run (stopO o) 4 ⟨a2, (((en P T).1 : Nat) : Int), (((en P T).2 : Nat) : Int), 255 - 2 + 2, Pf n2 z2 (mt P T), o + 7, mem2⟩ ⟨b2i (mt P T), (((en P T).1 : Nat) : Int), (((en P T).2 : Nat) : Int), 255, Pf false (!mt P T) false, o + 80, mem2.set 16 (b2i (mt P T))⟩ := by
    rw [← b2i_c] at H3 ⊢
    exact .cons (i7 H2) (ns (by decide)) (.cons (i9 H2) (ns (by decide)) (.cons (i10 H2) (ns (by decide)) (.cons (i12 H3) (ns (by decide)) .nil)))
  have hc := co_le P T C.tl
  have hb : 5 ^ stars P * (22 * P.length + 8) ≤ 25 * 118 := Nat.mul_le_mul (Nat.le_trans (Nat.pow_le_pow_right (by decide) hst) (by decide)) (Nat.add_le_add_right (Nat.mul_le_mul_left 22 C.pl) 8)
  have e0 : (⟨0, 0, 0, 255, Pf false false false, o + 0, N⟩ : M) = ⟨0, 0, 0, 255, 48, o, N⟩ := mk_eq rfl rfl rfl rfl rfl (Int.add_zero o) rfl
  rw [e0] at g1
  refine ⟨4 + (k + 3), ⟨b2i (mt P T), (((en P T).1 : Nat) : Int), (((en P T).2 : Nat) : Int), 255, Pf false (!mt P T) false, o + 80, mem2.set 16 (b2i (mt P T))⟩, ?_, ((g1.app g2).app g3), (stopO_eq o).symm, ?_⟩
  · exact bnd_main hk hc hb
  · refine ⟨?_, agr_take A, agr_drop A (by decide), ?_, ?_⟩
    · unfold seen expd
      rw [b2i_1, stopO_eq]
      cases mt P T <;> rfl
    · rw [List.length_set, A.len, hl]; decide
    · rw [List.length_set, hl]; decide
end
end Mine
/-! text P5 -/
open PySem PySem.W PyProof.Rows PySem.Spec PySem.Calls
set_option Elab.async false
set_option maxRecDepth 100000
set_option maxHeartbeats 0
namespace Mine
/-! the memory that the law builds -/
theorem get_r {l r : List Int} {i : Int} (h : (l.length : Int) ≤ i) : get (l ++ r) i = get r (i - l.length) := by
  unfold get
  rw [List.getD_eq_getElem?_getD, List.getD_eq_getElem?_getD, List.getElem?_append_right (by omega)]
  rw [show i.toNat - l.length = (i - (l.length : Int)).toNat by omega]
theorem get_l {l r : List Int} {i : Int} (h0 : 0 ≤ i) (h : i < l.length) : get (l ++ r) i = get l i := by
  unfold get
  rw [List.getD_eq_getElem?_getD, List.getD_eq_getElem?_getD, List.getElem?_append_left (by omega)]
theorem mul0 (k : Int) : mulL [0] k = List.replicate k.toNat 0 := by
  unfold mulL
  induction k.toNat with
  | zero => rfl
  | succ n ih => rw [List.replicate_succ, List.flatten_cons, ih]; rfl
theorem get_0 (k i : Int) : get (mulL [0] k) i = 0 := by
  unfold get
  rw [mul0, List.getD_eq_getElem?_getD, List.getElem?_replicate]
  split <;> rfl
theorem len_0 (k : Int) : (mulL [0] k).length = k.toNat := by rw [mul0, List.length_replicate]
theorem getD_ge {l : List Int} {i : Nat} (h : l.length ≤ i) : l.getD i 0 = 0 := by
  rw [List.getD_eq_getElem?_getD, List.getElem?_eq_none h]; rfl
theorem getD_mem {l : List Int} {i : Nat} (h : i < l.length) : l.getD i 0 ∈ l := by
  rw [List.getD_eq_getElem?_getD, List.getElem?_eq_getElem h]
  exact List.getElem_mem h
section
variable {o : Int} {P T : List Int}
theorem get_seg {a x b : List Int} {n i : Int} (hn : (a.length : Int) = n) (h0 : 0 ≤ i) (h1 : i < x.length) : get (a ++ x ++ b) (n + i) = get x i := by
  subst hn
  rw [get_l (by omega) (by rw [List.length_append]; omega), get_r (by omega), show (a.length : Int) + i - a.length = i by omega]
theorem get_pad (x : List Int) (k : Int) (i : Nat) : get (x ++ mulL [0] k) i = x.getD i 0 := by
  by_cases q : i < x.length
  · rw [get_l (by omega) (by omega)]
    rfl
  · rw [get_r (by omega), get_0, getD_ge (by omega)]
theorem len_pad {x : List Int} (h : x.length ≤ 32) : (x ++ mulL [0] (32 - (x.length : Int))).length = 32 := by
  rw [List.length_append, len_0]; omega
theorem memA_pre {o : Int} (h1 : 512 ≤ o) : (mulL pre 8 ++ mulL [0] (o - 512)).length = o.toNat := by
  rw [List.length_append, mulL_len, pre_len, len_0]; omega
theorem to_nat {o : Int} (h1 : 512 ≤ o) : ((o.toNat : Nat) : Int) = o := by omega
theorem memA_len (h1 : 512 ≤ o) (h2 : o ≤ 767) : (memA o (rawO o)).length = 1024 := by
  unfold memA
  rw [List.length_append, List.length_append, memA_pre h1, len_0, raw_len]
  omega
theorem memA_get (h1 : 512 ≤ o) (k : Int) (h3 : 0 ≤ k) (h4 : k < 80) : get (memA o (rawO o)) (o + k) = get (codeO o) k := by
  unfold memA
  rw [get_seg (by rw [memA_pre h1]; exact to_nat h1) h3 (by rw [raw_len]; exact h4), raw_eq]
theorem memB_eq (M : List Int) : memB M P T = M ++ (P ++ mulL [0] (32 - (P.length : Int))) ++ (T ++ mulL [0] (32 - (T.length : Int))) := by
  unfold memB
  simp only [List.append_assoc]
theorem memB_len {M : List Int} (hM : M.length = 1024) (hP : P.length ≤ 5) (hT : T.length ≤ 4) : (memB M P T).length = 1088 := by
  rw [memB_eq, List.length_append, List.length_append, len_pad (Nat.le_trans hP (by decide)), len_pad (Nat.le_trans hT (by decide)), hM]
theorem lt32 {i n : Nat} (h : i ≤ n) (hn : n < 32) {x : List Int} (hx : x.length = 32) : (i : Int) < x.length := by omega
theorem memB_p {M : List Int} (hM : M.length = 1024) (hP : P.length ≤ 5) (i : Nat) (hi : i ≤ 5) : get (memB M P T) (1024 + (i : Int)) = P.getD i 0 := by
  rw [memB_eq, get_seg (n := 1024) (by rw [hM]; rfl) (Int.natCast_nonneg i) (lt32 hi (by decide) (len_pad (Nat.le_trans hP (by decide)))), get_pad]
theorem memB_t {M : List Int} (hM : M.length = 1024) (hP : P.length ≤ 5) (hT : T.length ≤ 4) (i : Nat) (hi : i ≤ 4) : get (memB M P T) (1056 + (i : Int)) = T.getD i 0 := by
  rw [memB_eq, ← List.append_nil (M ++ _ ++ _), get_seg (n := 1056) (by rw [List.length_append, len_pad (Nat.le_trans hP (by decide)), hM]; rfl) (Int.natCast_nonneg i) (lt32 hi (by decide) (len_pad (Nat.le_trans hT (by decide)))), get_pad]
theorem memB_l {M : List Int} {i : Int} (h0 : 0 ≤ i) (h1 : i < M.length) : get (memB M P T) i = get M i := by
  rw [memB_eq, List.append_assoc, get_l h0 h1]
theorem getD_pos {x : List Int} (h : ∀ s ∈ x, 0 ≤ s ∧ s < 256) (i : Nat) : 0 ≤ x.getD i 0 ∧ x.getD i 0 < 256 := by
  by_cases q : i < x.length
  · exact h _ (getD_mem q)
  · rw [getD_ge (Nat.le_of_not_lt q)]; decide
theorem memB_ok (C : Cfg P T) (h1 : 512 ≤ o) (h2 : o ≤ 767) : MemOk o P T (memB (memA o (rawO o)) P T) :=
  have hl := memA_len h1 h2
  ⟨⟨h1, h2⟩, memB_len hl C.pl C.tl, fun k g0 g1 => (memB_l (by omega) (by rw [hl]; omega)).trans (memA_get h1 k g0 g1), memB_p hl C.pl, memB_t hl C.pl C.tl,
    getD_pos fun s hs => by rcases C.ps s hs with rfl | rfl | rfl | rfl <;> decide, getD_pos fun s hs => by rcases C.ts s hs with rfl | rfl <;> decide⟩
end
theorem fmod_nn (a : Int) {b : Int} (h : 0 < b) : 0 ≤ a.fmod b := by rw [Int.fmod_eq_emod_of_nonneg _ (by omega)]; exact Int.emod_nonneg _ (by omega)
/-! the drawn pattern and the drawn text -/
theorem nxt_fold : ∀ (l : List Int) (q : List Int × Int), (∀ s ∈ q.1, s = 97 ∨ s = 98 ∨ s = 63 ∨ s = 42) → q.2 = stars q.1 → stars q.1 ≤ 2 → (∀ s ∈ (l.foldl nxt q).1, s = 97 ∨ s = 98 ∨ s = 63 ∨ s = 42) ∧ stars (l.foldl nxt q).1 ≤ 2 ∧ (l.foldl nxt q).1.length = q.1.length + l.length := by
  have sapp : ∀ (l : List Int) (s : Int), stars (l ++ [s]) = stars l + if s = 42 then 1 else 0 := fun l s => by
    induction l with
    | nil => simp [stars]
    | cons c l ih => simp only [List.cons_append, stars, ih]; omega
  have hs : ∀ k, sgn k = 97 ∨ sgn k = 98 ∨ sgn k = 63 ∨ sgn k = 42 := fun k => by
    have h0 : 0 ≤ k.fmod 6 := fmod_nn _ (by decide)
    have h1 : k.fmod 6 < 6 := Int.fmod_lt_of_pos _ (by decide)
    unfold sgn
    generalize hq : (k.fmod 6).toNat = q
    have : q < 6 := by omega
    match q, this with
    | 0, _ => decide
    | 1, _ => decide
    | 2, _ => decide
    | 3, _ => decide
    | 4, _ => decide
    | 5, _ => decide
  intro l
  induction l with
  | nil => intro q h1 h2 h3; exact ⟨h1, h3, rfl⟩
  | cons k l ih =>
    intro q h1 h2 h3
    rw [List.foldl_cons]
    have key : (∀ s ∈ (nxt q k).1, s = 97 ∨ s = 98 ∨ s = 63 ∨ s = 42) ∧ (nxt q k).2 = stars (nxt q k).1 ∧ stars (nxt q k).1 ≤ 2 ∧ (nxt q k).1.length = q.1.length + 1 := by
      unfold nxt
      split
      next e =>
        split
        next e2 => exact ⟨fun s hs' => (List.mem_append.mp hs').elim (h1 s) (fun g => by simp at g; omega), by rw [sapp]; simpa using h2, by rw [sapp]; simpa using h3, by simp⟩
        next e2 => exact ⟨fun s hs' => (List.mem_append.mp hs').elim (h1 s) (fun g => by simp at g; omega), by rw [sapp, if_pos e]; simp; omega, by rw [sapp, if_pos e]; omega, by simp⟩
      next e => exact ⟨fun s hs' => (List.mem_append.mp hs').elim (h1 s) (fun g => by simp only [List.mem_singleton] at g; rw [g]; exact hs k), by rw [sapp, if_neg e]; simpa using h2, by rw [sapp, if_neg e]; simpa using h3, by simp⟩
    obtain ⟨k1, k2, k3, k4⟩ := key
    obtain ⟨g1, g2, g3⟩ := ih _ k1 k2 k3
    exact ⟨g1, g2, by rw [g3, k4, List.length_cons]; omega⟩
theorem cfg_of (D : List Int) : Cfg (pat D) (txt D) ∧ stars (pat D) ≤ 2 := by
  obtain ⟨g1, g2, g3⟩ := nxt_fold (pks D) ([], 0) (fun _ h => nomatch h) rfl (Nat.zero_le _)
  refine ⟨⟨?_, ?_, g1, ?_⟩, g2⟩
  · unfold pat
    rw [g3]
    unfold pks
    have h0 : 0 ≤ (D.getD (0 : Int).toNat 0).fmod 6 := fmod_nn _ (by decide)
    have h1 : (D.getD (0 : Int).toNat 0).fmod 6 < 6 := Int.fmod_lt_of_pos _ (by decide)
    simp only [List.length_take, List.length_nil]
    omega
  · unfold txt
    have h0 : 0 ≤ (D.getD (1 : Int).toNat 0).fmod 5 := fmod_nn _ (by decide)
    have h1 : (D.getD (1 : Int).toNat 0).fmod 5 < 5 := Int.fmod_lt_of_pos _ (by decide)
    refine Nat.le_trans (List.length_filterMap_le _ _) ?_
    unfold tks
    simp only [List.length_take]
    omega
  · intro c hc
    unfold txt at hc
    obtain ⟨k, _, hk⟩ := List.mem_filterMap.mp hc
    have h0 : 0 ≤ k.fmod 2 := fmod_nn _ (by decide)
    have h1 : k.fmod 2 < 2 := Int.fmod_lt_of_pos _ (by decide)
    have : letter k = c := Option.some.inj hk
    unfold letter at this
    omega
end Mine
/-! text P6 -/
open PySem PySem.W PyProof.Rows PySem.Spec PySem.Calls
set_option Elab.async false
set_option maxRecDepth 100000
set_option maxHeartbeats 0
namespace Mine
/-! the plain law: the places reached -/
theorem rints_eq (n : Nat) : rints 0 1 n = (List.range n).map fun (j : Nat) => (j : Int) := by
  unfold rints
  rw [List.range_eq_range']
  exact List.map_congr_left fun j _ => by omega
theorem suf_iff (f : List Int → Bool) : ∀ t : List Int, suf f t = true ↔ ∃ k, k ≤ t.length ∧ f (t.drop k) = true
  | [] => ⟨fun h => ⟨0, Nat.le_refl _, h⟩, fun ⟨k, hk, h⟩ => by simpa [suf] using h⟩
  | c :: t => by
    unfold suf
    rw [Bool.or_eq_true, suf_iff f t]
    constructor
    · rintro (h | ⟨k, hk, h⟩)
      · exact ⟨0, Nat.zero_le _, h⟩
      · exact ⟨k + 1, by simp; omega, h⟩
    · rintro ⟨k, hk, h⟩
      cases k with
      | zero => exact .inl h
      | succ k => exact .inr ⟨k, by simpa using hk, h⟩
theorem suf_drop (f : List Int → Bool) (T : List Int) (k : Nat) (hk : k ≤ T.length) : suf f (T.drop k) = true ↔ ∃ j, k ≤ j ∧ j ≤ T.length ∧ f (T.drop j) = true := by
  rw [suf_iff]
  constructor
  · rintro ⟨i, hi, h⟩
    rw [List.drop_drop] at h
    simp only [List.length_drop] at hi
    exact ⟨k + i, by omega, by omega, h⟩
  · rintro ⟨j, h1, h2, h⟩
    refine ⟨j - k, by simp only [List.length_drop]; omega, ?_⟩
    rw [List.drop_drop, show k + (j - k) = j by omega]
    exact h
/-- the list of places is good -/
structure Pl (T R : List Int) : Prop where
  rg : ∀ k ∈ R, 0 ≤ k ∧ k ≤ (T.length : Int)
  up : R.Pairwise (· ≤ ·)
noncomputable def Hit (T R p : List Int) : Prop := ∃ k ∈ R, mt p (T.drop k.toNat) = true
theorem mt_star {p t : List Int} : mt (42 :: p) t = suf (mt p) t := by simp [mt]
theorem mt_nil (s : Int) (p : List Int) (h : s ≠ 42) : mt (s :: p) [] = false := by simp [mt, h]
theorem mt_cons (s : Int) (p : List Int) (h : s ≠ 42) (c : Int) (t : List Int) : mt (s :: p) (c :: t) = ((s == 63 || s == c) && mt p t) := by simp [mt, h]
theorem drop_get {T : List Int} {k : Nat} (h : k < T.length) : T.drop k = T.getD k 0 :: T.drop (k + 1) := by
  rw [List.drop_eq_getElem_cons h, List.getD_eq_getElem?_getD, List.getElem?_eq_getElem h]
  rfl
theorem stepC_ok {T R : List Int} (s : Int) (h : s ≠ 42) (L : Pl T R) : Pl T (stepC T s R) ∧ ∀ p, Hit T (stepC T s R) p ↔ Hit T R (s :: p) := by
  have hm : ∀ k, k ∈ stepC T s R ↔ ∃ i ∈ R, (i < (T.length : Int) ∧ (s = 63 ∨ T.getD i.toNat 0 = s)) ∧ i + 1 = k := fun k => by
    unfold stepC
    rw [List.mem_filterMap]
    constructor
    · rintro ⟨i, hi, e⟩
      split at e
      next q => exact ⟨i, hi, q, Option.some.inj e⟩
      next q => exact nomatch e
    · rintro ⟨i, hi, q, e⟩
      exact ⟨i, hi, by rw [if_pos q, e]⟩
  refine ⟨⟨fun k hk => ?_, ?_⟩, fun p => ?_⟩
  · obtain ⟨i, hi, q, e⟩ := (hm k).mp hk
    have := L.rg i hi
    omega
  · unfold stepC
    refine List.Pairwise.filterMap _ ?_ L.up
    intro i j hij b hb b' hb'
    split at hb
    next => 
      split at hb'
      next => 
        have e1 := Option.some.inj hb
        have e2 := Option.some.inj hb'
        omega
      next => exact nomatch hb'
    next => exact nomatch hb
  · constructor
    · rintro ⟨k, hk, g⟩
      obtain ⟨i, hi, q, e⟩ := (hm k).mp hk
      have hr := L.rg i hi
      refine ⟨i, hi, ?_⟩
      rw [drop_get (by omega), mt_cons s p h]
      rw [show i.toNat + 1 = k.toNat by omega, g, Bool.and_true, Bool.or_eq_true]
      exact q.2.elim (fun g => .inl (beq_iff_eq.mpr g)) (fun g => .inr (beq_iff_eq.mpr g.symm))
    · rintro ⟨i, hi, g⟩
      have hr := L.rg i hi
      by_cases q : i < (T.length : Int)
      · rw [drop_get (by omega), mt_cons s p h, Bool.and_eq_true, Bool.or_eq_true] at g
        refine ⟨i + 1, (hm _).mpr ⟨i, hi, ⟨q, g.1.elim (fun g => .inl (beq_iff_eq.mp g)) (fun g => .inr (beq_iff_eq.mp g).symm)⟩, rfl⟩, ?_⟩
        rw [show (i + 1).toNat = i.toNat + 1 by omega]
        exact g.2
      · rw [List.drop_eq_nil_of_le (by omega), mt_nil s p h] at g
        exact nomatch g
theorem stepS_ok {T R : List Int} (L : Pl T R) : Pl T (stepS T R) ∧ ∀ p, Hit T (stepS T R) p ↔ Hit T R (42 :: p) := by
  have hm : ∀ k, k ∈ stepS T R ↔ ∃ i : Nat, i ≤ T.length ∧ (R ≠ [] ∧ R.getD (0 : Int).toNat 0 ≤ (i : Int)) ∧ (i : Int) = k := fun k => by
    unfold stepS
    rw [List.mem_filterMap, rints_eq]
    constructor
    · rintro ⟨i, hi, e⟩
      obtain ⟨j, hj, rfl⟩ := List.mem_map.mp hi
      split at e
      next q => exact ⟨j, by have := List.mem_range.mp hj; omega, q, Option.some.inj e⟩
      next q => exact nomatch e
    · rintro ⟨i, hi, q, e⟩
      exact ⟨i, List.mem_map.mpr ⟨i, List.mem_range.mpr (by omega), rfl⟩, by rw [if_pos q, e]⟩
  refine ⟨⟨fun k hk => ?_, ?_⟩, fun p => ?_⟩
  · obtain ⟨i, hi, q, e⟩ := (hm k).mp hk
    omega
  · unfold stepS
    rw [rints_eq]
    have hp : ((List.range (T.length + 1)).map fun (j : Nat) => (j : Int)).Pairwise (· ≤ ·) := by
      rw [List.pairwise_map]
      exact List.pairwise_lt_range.imp fun h => by omega
    refine List.Pairwise.filterMap _ ?_ hp
    intro i j hij b hb b' hb'
    split at hb
    next => 
      split at hb'
      next => 
        have e1 := Option.some.inj hb
        have e2 := Option.some.inj hb'
        omega
      next => exact nomatch hb'
    next => exact nomatch hb
  · constructor
    · rintro ⟨k, hk, g⟩
      obtain ⟨i, hi, q, e⟩ := (hm k).mp hk
      cases R with
      | nil => exact absurd rfl q.1
      | cons r R =>
        have hr := L.rg r List.mem_cons_self
        have q2 : r ≤ (i : Int) := q.2
        refine ⟨r, List.mem_cons_self, ?_⟩
        rw [mt_star, suf_drop _ _ _ (by omega)]
        exact ⟨i, by omega, hi, by rw [show i = k.toNat by omega]; exact g⟩
    · rintro ⟨i, hi, g⟩
      have hr := L.rg i hi
      rw [mt_star, suf_drop _ _ _ (by omega)] at g
      obtain ⟨j, h1, h2, g⟩ := g
      refine ⟨(j : Int), (hm _).mpr ⟨j, h2, ⟨fun e => (by rw [e] at hi; exact (nomatch hi)), ?_⟩, rfl⟩, g⟩
      cases R with
      | nil => exact nomatch hi
      | cons r R =>
        have q : r ≤ i := by
          rcases List.mem_cons.mp hi with rfl | q
          · exact Int.le_refl _
          · exact (List.pairwise_cons.mp L.up).1 i q
        show r ≤ (j : Int)
        omega
theorem rch_ok (T : List Int) : ∀ (p R : List Int), Pl T R → Pl T (p.foldl (stepR T) R) ∧ (Hit T (p.foldl (stepR T) R) [] ↔ Hit T R p)
  | [], R, L => ⟨L, Iff.rfl⟩
  | s :: p, R, L => by
    rw [List.foldl_cons]
    by_cases h : s = 42
    · subst h
      have e : stepR T R 42 = stepS T R := by simp [stepR]
      rw [e]
      obtain ⟨a, b⟩ := stepS_ok L
      obtain ⟨c, d⟩ := rch_ok T p _ a
      exact ⟨c, d.trans (b p)⟩
    · have e : stepR T R s = stepC T s R := by simp [stepR, h]
      rw [e]
      obtain ⟨a, b⟩ := stepC_ok s h L
      obtain ⟨c, d⟩ := rch_ok T p _ a
      exact ⟨c, d.trans (b p)⟩
theorem ans_ok (P T : List Int) : ansI T (rch P T) = b2i (mt P T) := by
  have L0 : Pl T [0] := ⟨fun k hk => by simp at hk; omega, by simp⟩
  obtain ⟨L, h⟩ := rch_ok T P [0] L0
  have h2 : Hit T [0] P ↔ mt P T = true := ⟨fun ⟨k, hk, g⟩ => by simp at hk; subst hk; exact g, fun g => ⟨0, by simp, g⟩⟩
  have h3 : Hit T (rch P T) [] ↔ (rch P T).any (· == (T.length : Int)) = true := by
    rw [List.any_eq_true]
    constructor
    · rintro ⟨k, hk, g⟩
      have hr := L.rg k hk
      refine ⟨k, hk, beq_iff_eq.mpr ?_⟩
      unfold mt at g
      have := List.drop_eq_nil_iff.mp (List.isEmpty_iff.mp g)
      omega
    · rintro ⟨k, hk, g⟩
      have := beq_iff_eq.mp g
      exact ⟨k, hk, by unfold mt; exact List.isEmpty_iff.mpr (List.drop_eq_nil_iff.mpr (by omega))⟩
  have h4 := (h3.symm.trans h).trans h2
  unfold ansI
  cases e : mt P T with
  | true => rw [if_pos (h4.mpr e)]; rfl
  | false => rw [if_neg fun q => by rw [h4.mp q] at e; exact nomatch e]; rfl
end Mine
/-! text P7 -/
open PySem PySem.W PyProof.Rows PySem.Spec PySem.Calls
set_option Elab.async false
set_option maxRecDepth 100000
set_option maxHeartbeats 0
namespace Mine
/-! the plain law: where the match ends -/
noncomputable def tab (T p : List Int) : List Int := (List.range (T.length + 1)).map fun k => b2i (mt p (T.drop k))
theorem tab_get (T p : List Int) (k : Nat) (h : k ≤ T.length) : (tab T p).getD k 0 = b2i (mt p (T.drop k)) := by
  unfold tab
  rw [List.getD_eq_getElem?_getD, List.getElem?_map, List.getElem?_range (by omega)]
  rfl
theorem fm_some (l : List Int) (F : Int → Int) : l.filterMap (fun k => some (F k)) = l.map F := by
  induction l with
  | nil => rfl
  | cons a l ih => rw [List.map_cons, ← ih]; rfl
theorem fm_rints (n : Nat) (F : Int → Int) : (rints 0 1 n).filterMap (fun k => some (F k)) = (List.range n).map fun (j : Nat) => F (j : Int) := by
  rw [fm_some, rints_eq, List.map_map]
  rfl
theorem rest0_tab (T : List Int) : rest0 T = tab T [] := by
  unfold rest0 tab
  rw [fm_rints]
  refine List.map_congr_left fun j hj => ?_
  have hj := List.mem_range.mp hj
  by_cases q : j = T.length
  · subst q
    rw [if_pos rfl, List.drop_length]; rfl
  · rw [if_neg (by omega), drop_get (by omega)]; rfl
theorem b2i_inj (b : Bool) : b2i b = 1 ↔ b = true := by cases b <;> simp [b2i]
theorem tab_star (T p : List Int) : starQ T (tab T p) = tab T (42 :: p) := by
  unfold starQ
  rw [fm_rints]
  refine List.map_congr_left fun k hk => ?_
  have hk := List.mem_range.mp hk
  rw [mt_star]
  have h : (sliceI (tab T p) (some (k : Int)) none).any (· == 1) = true ↔ suf (mt p) (T.drop k) = true := by
    rw [suf_drop _ _ _ (by omega), List.any_eq_true]
    show (∃ x, x ∈ (tab T p).drop ((k : Nat) : Int).toNat ∧ (x == 1) = true) ↔ _
    rw [Int.toNat_natCast]
    constructor
    · rintro ⟨x, hx, e⟩
      obtain ⟨i, hi, e2⟩ := List.mem_iff_getElem.mp hx
      rw [List.getElem_drop] at e2
      have hl : (tab T p).length = T.length + 1 := by unfold tab; simp
      rw [List.length_drop, hl] at hi
      have e3 := tab_get T p (k + i) (by omega)
      rw [List.getD_eq_getElem?_getD, List.getElem?_eq_getElem (by omega)] at e3
      have e4 : (tab T p)[k + i]'(by omega) = b2i (mt p (T.drop (k + i))) := e3
      rw [e4] at e2
      exact ⟨k + i, by omega, by omega, (b2i_inj _).mp (e2.trans (beq_iff_eq.mp e))⟩
    · rintro ⟨j, h1, h2, g⟩
      refine ⟨1, ?_, rfl⟩
      rw [List.mem_iff_getElem]
      have hl : (tab T p).length = T.length + 1 := by unfold tab; simp
      refine ⟨j - k, by rw [List.length_drop, hl]; omega, ?_⟩
      rw [List.getElem_drop]
      have e3 := tab_get T p j h2
      rw [List.getD_eq_getElem?_getD, List.getElem?_eq_getElem (by omega), g] at e3
      simp only [show k + (j - k) = j by omega]
      exact e3
  cases e : suf (mt p) (T.drop k) with
  | true => rw [if_pos (h.mpr e)]; rfl
  | false => rw [if_neg fun q => by rw [h.mp q] at e; exact nomatch e]; rfl
theorem tab_char (T p : List Int) (s : Int) (h : s ≠ 42) : charQ T s (tab T p) = tab T (s :: p) := by
  unfold charQ
  rw [fm_rints (T.length + 1) (fun k => if k < (T.length : Int) ∧ (s = 63 ∨ T.getD k.toNat 0 = s) then (tab T p).getD (k + 1).toNat 0 else 0)]
  refine List.map_congr_left fun k hk => ?_
  have hk := List.mem_range.mp hk
  by_cases q : k < T.length
  · rw [drop_get q, mt_cons s p h]
    show (if (k : Int) < (T.length : Int) ∧ (s = 63 ∨ T.getD ((k : Nat) : Int).toNat 0 = s) then (tab T p).getD ((k : Int) + 1).toNat 0 else 0) = _
    rw [show ((k : Int) + 1).toNat = k + 1 by omega, tab_get _ _ _ (by omega), Int.toNat_natCast]
    by_cases g : s = 63 ∨ T.getD k 0 = s
    · rw [if_pos ⟨by omega, g⟩]
      rw [show (s == 63 || s == T.getD k 0) = true from (Bool.or_eq_true ..).mpr (g.elim (fun g => .inl (beq_iff_eq.mpr g)) (fun g => .inr (beq_iff_eq.mpr g.symm)))]
      rfl
    · rw [if_neg fun g' => g g'.2]
      rw [show (s == 63 || s == T.getD k 0) = false from by
        rw [Bool.or_eq_false_iff]
        exact ⟨bne0 fun e => g (.inl e), bne0 fun e => g (.inr e.symm)⟩]
      rfl
  · rw [List.drop_eq_nil_of_le (by omega), mt_nil s p h]
    exact if_neg fun g => by have := g.1; omega
theorem tab_step (T p : List Int) (s : Int) : stepQ T (tab T p) s = tab T (s :: p) := by
  unfold stepQ
  by_cases h : s = 42
  · subst h; rw [if_pos rfl, tab_star]
  · rw [if_neg h, tab_char T p s h]
theorem rints_succ (a k : Int) (n : Nat) : rints a k (n + 1) = rints a k n ++ [a + (n : Int) * k] := by
  unfold rints
  rw [List.range'_concat, List.map_append]
  simp
theorem tab_back (P T : List Int) : ∀ n : Nat, n ≤ P.length → tabQ P T (rints ((P.length : Int) - 1) (-1) n) (rest0 T) = tab T (P.drop (P.length - n))
  | 0, _ => by
    rw [Nat.sub_zero, List.drop_length, ← rest0_tab]
    rfl
  | n + 1, h => by
    have ih := tab_back P T n (by omega)
    unfold tabQ at ih ⊢
    rw [rints_succ, List.foldl_append, ih]
    show stepQ T (tab T (P.drop (P.length - n))) (P.getD ((P.length : Int) - 1 + (n : Int) * (-1)).toNat 0) = _
    rw [tab_step, show ((P.length : Int) - 1 + (n : Int) * (-1)).toNat = P.length - (n + 1) by omega]
    rw [drop_get (k := P.length - (n + 1)) (by omega), show P.length - (n + 1) + 1 = P.length - n by omega]
theorem tab_end (P T : List Int) (p : Nat) (h : p < P.length) : tabQ P T (backs P p) (rest0 T) = tab T (P.drop (p + 1)) := by
  unfold backs
  rw [tab_back P T _ (by omega), show P.length - (P.length - 1 - p) = p + 1 by omega]
/-- the first place from which the rest matches -/
theorem fst_ok (f : List Int → Bool) (T : List Int) (y : Nat) : ∀ (n i : Nat), y = i + n → (∀ q, i ≤ q → q < y → q < T.length ∧ f (T.drop q) = false) → ¬ (y < T.length ∧ f (T.drop y) = false) → i + fstS f (T.drop i) = y
  | 0, i, e, _, h2 => by
    rw [Nat.add_zero] at e
    subst e
    by_cases q : y < T.length
    · have : f (T.drop y) = true := by
        cases g : f (T.drop y) with
        | true => rfl
        | false => exact absurd ⟨q, g⟩ h2
      rw [drop_get q] at this ⊢
      unfold fstS
      rw [if_pos this]
      rfl
    · rw [List.drop_eq_nil_of_le (by omega)]
      rfl
  | n + 1, i, e, h1, h2 => by
    obtain ⟨q, g⟩ := h1 i (Nat.le_refl _) (by omega)
    have ih := fst_ok f T y n (i + 1) (by omega) (fun q a b => h1 q (by omega) b) h2
    rw [drop_get q] at g ⊢
    unfold fstS
    rw [if_neg (by rw [g]; exact Bool.false_ne_true)]
    omega
theorem end_ok {P T : List Int} (C : Cfg P T) (p y : Nat) (h1 : ∀ q, q < p → fits P T q) (h2 : ¬ fits P T p) (h3 : endY P T p y) : ∀ (n i : Nat), p = i + n → i + (en (P.drop i) (T.drop i)).1 = p ∧ i + (en (P.drop i) (T.drop i)).2 = y
  | 0, i, e => by
    rw [Nat.add_zero] at e
    subst e
    unfold endY at h3
    by_cases hp : p < P.length
    · rw [drop_get hp]
      by_cases hs : P.getD p 0 = 42
      · rw [if_pos ⟨hp, hs⟩, tab_end P T p hp] at h3
        obtain ⟨k1, k2, k3⟩ := h3
        rw [hs]
        have e2 : en (42 :: P.drop (p + 1)) (T.drop p) = (0, fstS (mt (P.drop (p + 1))) (T.drop p)) := by simp [en]
        rw [e2]
        refine ⟨rfl, ?_⟩
        refine fst_ok _ T y (y - p) p (by omega) (fun q a b => ?_) ?_
        · obtain ⟨c, d⟩ := k2 q a b
          rw [tab_get _ _ _ (by omega)] at d
          refine ⟨c, ?_⟩
          cases g : mt (P.drop (p + 1)) (T.drop q) with
          | false => rfl
          | true => rw [g] at d; exact absurd d (by decide)
        · rintro ⟨c, d⟩
          refine k3 ⟨c, ?_⟩
          rw [tab_get _ _ _ (by omega), d]
          rfl
      · rw [if_neg fun g => hs g.2] at h3
        subst h3
        by_cases ht : y < T.length
        · rw [drop_get ht]
          have e2 : ¬ (P.getD y 0 == 63 || P.getD y 0 == T.getD y 0) = true := by
            rw [Bool.or_eq_true, beq_iff_eq, beq_iff_eq]
            exact fun g => h2 ⟨hp, ht, g⟩
          have e3 : en (P.getD y 0 :: P.drop (y + 1)) (T.getD y 0 :: T.drop (y + 1)) = (0, 0) := by
            unfold en
            rw [if_neg hs]
            exact if_neg e2
          rw [e3]
          exact ⟨rfl, rfl⟩
        · rw [List.drop_eq_nil_of_le (by omega : T.length ≤ y)]
          have e3 : en (P.getD y 0 :: P.drop (y + 1)) [] = (0, 0) := by
            unfold en
            exact if_neg hs
          rw [e3]
          exact ⟨rfl, rfl⟩
    · rw [if_neg fun g => hp g.1] at h3
      subst h3
      rw [List.drop_eq_nil_of_le (by omega : P.length ≤ y)]
      exact ⟨rfl, rfl⟩
  | n + 1, i, e => by
    obtain ⟨a, b, c⟩ := h1 i (by omega)
    have ih := end_ok C p y h1 h2 h3 n (i + 1) (by omega)
    have ht := C.ts _ (getD_mem b)
    have hs : P.getD i 0 ≠ 42 := by omega
    rw [drop_get a, drop_get b]
    have e3 : en (P.getD i 0 :: P.drop (i + 1)) (T.getD i 0 :: T.drop (i + 1)) = ((en (P.drop (i + 1)) (T.drop (i + 1))).1 + 1, (en (P.drop (i + 1)) (T.drop (i + 1))).2 + 1) := by
      show (if P.getD i 0 = 42 then _ else _) = _
      rw [if_neg hs]
      exact if_pos ((Bool.or_eq_true ..).mpr (c.elim (fun g => .inl (beq_iff_eq.mpr g)) (fun g => .inr (beq_iff_eq.mpr g))))
    rw [e3]
    show i + ((en (P.drop (i + 1)) (T.drop (i + 1))).1 + 1) = p ∧ i + ((en (P.drop (i + 1)) (T.drop (i + 1))).2 + 1) = y
    omega
theorem ends {P T : List Int} (C : Cfg P T) (p y : Nat) (h1 : ∀ q, q < p → fits P T q) (h2 : ¬ fits P T p) (h3 : endY P T p y) : (en P T).1 = p ∧ (en P T).2 = y := by
  have h := end_ok C p y h1 h2 h3 p 0 (by omega)
  rw [Nat.zero_add, Nat.zero_add] at h
  exact h
end Mine
/-! text J0 -/
open PySem PySem.W PyProof.Rows PySem.Spec PySem.Calls
set_option Elab.async false
set_option maxRecDepth 100000
set_option maxHeartbeats 0
namespace Mine
/-! the drawn numbers: the script is a kept list -/
noncomputable def badO : Obj := { cls := .none, data := .freed }
open Classical in
noncomputable def Kx (P₀ : Params) (a : Addr) (o : Obj) (P : Params) : Frag := if P = P₀ then (a, o) :: K P else [(0, badO)]
theorem bad_in {h : Heap} (x : Frag.In [(0, badO)] h) : False := by
  have := x 0 badO rfl
  have := (Heap.get?_some_iff.mp this).2
  exact nomatch this
theorem Kx_in {P₀ P : Params} {a : Addr} {o : Obj} {h : Heap} (x : (Kx P₀ a o P).In h) : P = P₀ ∧ h.get? a = some o := by
  unfold Kx at x
  split at x
  next e => exact ⟨e, x a o (by rw [List.lookup_cons]; simp)⟩
  next e => exact (bad_in x).elim
theorem Kx_of {P₀ : Params} {a : Addr} {o : Obj} {h : Heap} (x : (K P₀).In h) (e : h.get? a = some o) : (Kx P₀ a o P₀).In h := by
  unfold Kx
  rw [if_pos rfl]
  intro b o' hb
  rw [List.lookup_cons] at hb
  split at hb
  next q => cases hb; rw [eq_of_beq q]; exact e
  next => exact x b o' hb
/-- the list at a, if K keeps it, is the same -/
noncomputable def Same (P₀ : Params) (a : Addr) (o : Obj) : Prop := ∀ o', (K P₀).lookup a = some o' → o' = o
theorem Kx_K {P₀ P : Params} {a : Addr} {o : Obj} {h : Heap} (hs : Same P₀ a o) (x : (Kx P₀ a o P).In h) : (K P).In h := by
  obtain ⟨rfl, e⟩ := Kx_in x
  intro b o' hb
  by_cases q : b = a
  · subst q
    rw [hs o' hb]
    exact e
  · refine x b o' ?_
    unfold Kx
    rw [if_pos rfl, List.lookup_cons]
    have : (b == a) = false := by simpa using q
    rw [this]
    exact hb
theorem Ok.kx {f : Fx} {d : Nat} {c : Cx} {P₀ : Params} {a : Addr} {o : Obj} (hs : Same P₀ a o) (h : Ok (Kx P₀ a o) f d c) : Ok K f d c :=
  ⟨h.scope, h.globals, h.builtins, Kx_K hs h.kin, h.top, h.kind, h.depth, h.units, h.handled, h.fn, h.cmp⟩
section
variable {prog : Program} {K' : Params → Frag} {f : Fx} {d : Nat} {σ σ₁ σ₂ σ₃ : S}
theorem EvE.kx {P₀ : Params} {a : Addr} {o : Obj} (hs : Same P₀ a o) {e : Expr} {x : AV} (h : EvE prog K f d e σ x σ₁) : EvE prog (Kx P₀ a o) f d e σ x σ₁ := fun c ok => h c (ok.kx hs)
theorem EvB.kx {P₀ : Params} {a : Addr} {o : Obj} (hs : Same P₀ a o) {e : List Stmt} {x : Out} (h : EvB prog K f d e σ x σ₁) : EvB prog (Kx P₀ a o) f d e σ x σ₁ := fun c ok => h c (ok.kx hs)
theorem EvE.sliceV {v : Expr} {lo hi : Option Expr} {p pos : Pos} {a : Addr} {vs : Array Value} {xs : List Int} {kl kh : Option Int} (h : EvE prog K' f d v σ (.val (.ref a)) σ₁) (h1 : EvP prog K' f d lo σ₁ kl σ₂) (h2 : EvP prog K' f d hi σ₂ kh σ₃) (hL : ∀ c, Ok K' f d c → c.h₀.IsList a vs) (hv : IntsAre vs.toList xs)
    (hz : xs.length ≤ 60000) (hg : ∀ p ∈ sliceG xs kl kh, p) : EvE prog K' f d (.Subscript v (.Slice lo hi none p) pos) σ (.obj σ₃.objs.length) { σ₃ with objs := σ₃.objs ++ [.il (sliceI xs kl kh)] } := by
  intro c ok as os m s Q E R hq
  refine Subscript_ (h c ok as os m s _ E R fun bs os₁ m₁ u s₁ ra R₁ => ?_)
  obtain rfl : u = .ref a := ra
  refine wpAny_Slice (h1 c ok _ os₁ m₁ s₁ _ E R₁ fun bs₂ os₂ m₂ vl s₂ pl R₂ => h2 c ok _ os₂ m₂ s₂ _ E R₂ fun bs₃ os₃ m₃ vh s₃ ph R₃ => ?_)
  refine wpAny_pure ?_
  have hl : s₃.heap.IsList a vs := by
    obtain ⟨o, ho, r⟩ := hL c ok
    exact ⟨o, R₃.fr.keep _ _ ho, r⟩
  have hsz : vs.size ≤ sizeLine := by
    have := hv.length
    rw [Array.length_toList] at this
    rw [this]
    exact Nat.le_trans hz (by decide +kernel)
  have hl' : (s₃.heap.push { cls := .type "slice", data := .fields #[vl, vh, .none] }).IsList a vs := hl.push _
  refine tail_any (ops := [.ref s₃.heap.objs.size, .ref a]) (Heap.IsList.typeIs (s := { s₃ with heap := s₃.heap.push { cls := .type "slice", data := .fields #[vl, vh, .none] } }) hl') slot_list_getitem.lookup
    (wpAny_getItem_list_slice hl' (Heap.IsSliceOf.new ..) pl ph .none (by simp) ?_ hsz) rfl
  have F1 := R₃.fr.push { cls := .type "slice", data := .fields #[vl, vh, .none] }
  have N1 : News c.h₀ c.L (s₃.heap.push { cls := .type "slice", data := .fields #[vl, vh, .none] }) _ := R₃.news.grown fun _ _ e => Heap.get?_push_of_some _ e
  obtain ⟨R₄, r₄⟩ := R₃.made (tk := s₃.toks) (a := s₃.heap.objs.size + 1) (o := listOf (slicePick vs kl kh none) 0) (ao := .il (sliceI xs kl kh)) (F1.push { cls := .type "list", data := .seq (slicePick vs kl kh none) }) (by
      have N2 := News.push F1 N1 { cls := .type "list", data := .seq (slicePick vs kl kh none) }
      rw [Heap.size_push] at N2
      exact N2) (fun p hp => Nat.lt_succ_of_lt (R₃.lt p hp)) ⟨_, _, rfl, slice_of hv hg⟩
  rw [List.append_assoc, List.append_assoc, List.append_assoc] at R₄ r₄
  show Q (.ref (s₃.heap.push _).objs.size) _
  rw [Heap.size_push]
  exact hq _ _ _ _ _ r₄ R₄
end
/-! the first statement -/
noncomputable def subV : Expr → Expr
  | .Subscript v _ _ => v
  | e => e
noncomputable def subS : Expr → Expr
  | .Subscript _ s _ => s
  | e => e
noncomputable def posE : Expr → Pos
  | .Subscript _ _ p => p
  | .Slice _ _ _ p => p
  | .Name _ p => p
  | .BinOp _ _ _ p => p
  | .Call _ _ _ p => p
  | _ => default
noncomputable def sliLo : Expr → Expr
  | .Slice (some e) _ _ _ => e
  | e => e
noncomputable def sliHi : Expr → Expr
  | .Slice _ (some e) _ _ => e
  | e => e
noncomputable def binR : Expr → Expr
  | .BinOp _ _ r _ => r
  | e => e
noncomputable def arg0 (e : Expr) : Expr := match callAs e with
  | a :: _ => a
  | [] => e
noncomputable def tgAs : Stmt → Expr
  | .Assign (t :: _) _ _ => t
  | _ => .Constant .none 0 default
noncomputable def e0L : Expr := binL (valE (lst 0))
noncomputable def e0R : Expr := binR (valE (lst 0))
noncomputable def e0N : Expr := sliLo (subS e0R)
noncomputable def e0A : Expr := arg0 e0N
noncomputable def cutE (v s h : Expr) (p : Pos) : Expr := .Subscript v (.Slice none (some h) none (posE s)) p
theorem s0st : lst 0 = .Assign [.Name (Str.ofString "drawn") (posE (tgAs (lst 0)))] (.BinOp (cutE (.Name (Str.ofString "script") (posE (subV e0L))) (subS e0L) (sliHi (subS e0L)) (posE e0L)) .Add (.Subscript (subV e0R) (.Slice (some (.Call (callF e0N) [cutE (.Name (Str.ofString "script") (posE (subV e0A))) (subS e0A) (sliHi (subS e0A)) (posE e0A)] [] (callP e0N))) none none (posE (subS e0R))) (posE e0R)) (posE (valE (lst 0)))) (posOfS (lst 0)) := by kernel_rfl
section
variable (a : Addr)
noncomputable abbrev sI (l : List AO) (x : Option AV) : S := ⟨.cell none :: .cell none :: .cell none :: .cell none :: l, lcs (some (.val (.ref a)) :: x :: List.replicate 16 none), cs4⟩
theorem s0c : LX (sliHi (subS e0L)) (sI a [] none) [] = some (.cint 11, sI a [] none, [], []) := by kernel_rfl
theorem s0m (xs : List Int) : LX (subV e0R) (sI a [.il xs] none) [] = some (.obj 5, sI a [.il xs, .list [.cint 4, .cint 4, .cint 0, .cint 3, .cint 1, .cint 2, .cint 0, .cint 0, .cint 1, .cint 1, .cint 0]] none, [], []) := by kernel_rfl
theorem s0c2 (xs ys : AO) : LX (sliHi (subS e0A)) (sI a [xs, ys] none) [] = some (.cint 11, sI a [xs, ys] none, [], []) := by kernel_rfl
theorem s0n (xs ys : AO) : LX (callF e0N) (sI a [xs, ys] none) [] = some (.blt .len, sI a [xs, ys] none, [], []) := by kernel_rfl
noncomputable def moreL : List Int := [4, 4, 0, 3, 1, 2, 0, 0, 1, 1, 0]
noncomputable def drawn (ns : List Int) : List Int := ns.take (11 : Int).toNat ++ moreL.drop ((ns.take (11 : Int).toNat).length : Int).toNat
theorem s0k1 : look (Str.ofString "script") fL.cs.names = some .local := by kernel_rfl
theorem s0k2 : look (Str.ofString "drawn") fL.cs.names = some .local := by kernel_rfl
theorem s0d : nd (Str.ofString "script") = true := by kernel_rfl
theorem s0p : plainFun (callF e0N) = true := by kernel_rfl
theorem s0l (l : List AO) : look (Str.ofString "script") (sI a l none).locs = some (some (.val (.ref a))) := by kernel_rfl
theorem s0w : setLoc (Str.ofString "drawn") (.obj 8) (sI a [] none).locs = some (sI a [] (some (.obj 8))).locs := by kernel_rfl
theorem s0nc : notComp (valE (lst 0)) = true := by kernel_rfl
theorem s0star : notStar (cutE (.Name (Str.ofString "script") (posE (subV e0A))) (subS e0A) (sliHi (subS e0A)) (posE e0A)) = true := by kernel_rfl
noncomputable abbrev sI2 (l : List AO) (x : Option AV) : S := ⟨.cell none :: .cell none :: .cell none :: .cell none :: l, lcs (none :: x :: List.replicate 16 none), cs4⟩
theorem s0wk (l : List AO) (x : AV) : WkLs (sI a l (some x)).locs (sI2 l (some x)).locs := by
  show WkLs (lnames.zip _) (lnames.zip _)
  exact WkA.zip (.none .refl) _
theorem s0sel (D xs ys zs ws : AO) : selOk (sI a [] none).objs.length (sI2 [xs, ys, zs, ws, D] (some (.obj 8))).objs.length [0, 1, 2, 3, 8] = true := by kernel_rfl
end
theorem s0ren (D : List Int) (xs ys zs ws : AO) : renS [0, 1, 2, 3, 8] (sI2 [xs, ys, zs, ws, .il D] (some (.obj 8))) = some (stL none none none none [.il D] [some (.obj 4)]) := by kernel_rfl
theorem s0 {P₀ : Params} {a : Addr} {o : Obj} {vs : Array Value} {n : Nat} {ns : List Int} (hs : Same P₀ a o) (hc : o.cls = .type "list") (hd : o.data = .seq vs n) (hv : IntsAre vs.toList ns) (hn : ns.length ≤ 63) : EvS pw (Kx P₀ a o) fL 40 (lst 0) (sI a [] none) .next (stL none none none none [.il (drawn ns)] [some (.obj 4)]) := by
  have hL : ∀ c, Ok (Kx P₀ a o) fL 40 c → c.h₀.IsList a vs := fun c ok => ⟨o, (Kx_in ok.kin).2, hc, n, hd⟩
  have cut : ∀ (v : AV) (l l' : List AO) (e h : Expr) (p p' : Pos), EvE pw (Kx P₀ a o) fL 40 h (sI a l none) (.cint 11) (sI a l none) → EvE pw (Kx P₀ a o) fL 40 (cutE (.Name (Str.ofString "script") p) e h p') (sI a l none) (.obj (l.length + 4)) (sI a (l ++ [.il (ns.take (11 : Int).toNat)]) none) := fun v l l' e h p p' hh =>
    .sliceV (σ₁ := sI a l none) (σ₂ := sI a l none) (σ₃ := sI a l none) (kl := none) (kh := some 11) (.loc (s0l a l) s0k1 s0d) .none (.some hh rfl) hL hv (by omega) (gcons (by decide) g0)
  have e1 := cut .any [] [] (subS e0L) (sliHi (subS e0L)) (posE (subV e0L)) (posE e0L) (EvE.kx hs (LX_ok (s0c a) g0))
  have e2 := EvE.kx hs (LX_ok (s0m a (ns.take (11 : Int).toNat)) g0)
  have e3 := cut .any [.il (ns.take (11 : Int).toNat), .list [.cint 4, .cint 4, .cint 0, .cint 3, .cint 1, .cint 2, .cint 0, .cint 0, .cint 1, .cint 1, .cint 0]] [] (subS e0A) (sliHi (subS e0A)) (posE (subV e0A)) (posE e0A) (EvE.kx hs (LX_ok (s0c2 a _ _) g0))
  have e4 := EvE.kx hs (LX_ok (s0n a (.il (ns.take (11 : Int).toNat)) (.list [.cint 4, .cint 4, .cint 0, .cint 3, .cint 1, .cint 2, .cint 0, .cint 0, .cint 1, .cint 1, .cint 0])) g0)
  generalize hx : ns.take (11 : Int).toNat = xs at *
  have hxl : xs.length ≤ 11 := by rw [← hx, List.length_take]; exact Nat.min_le_left _ _
  generalize hM : AO.list [.cint 4, .cint 4, .cint 0, .cint 3, .cint 1, .cint 2, .cint 0, .cint 0, .cint 1, .cint 1, .cint 0] = mo at *
  have hmo : intsO mo = some moreL := by rw [← hM]; rfl
  have e5 : EvE pw (Kx P₀ a o) fL 40 (.Call (callF e0N) [cutE (.Name (Str.ofString "script") (posE (subV e0A))) (subS e0A) (sliHi (subS e0A)) (posE e0A)] [] (callP e0N)) (sI a [.il xs, mo] none) (.int xs.length) (sI a [.il xs, mo, .il xs] none) :=
    .callV (b := .len) (σ₂ := sI a [.il xs, mo, .il xs] none) (xs := [.obj 6]) e4 (by intro e he; rw [List.mem_singleton.mp he]; exact s0star) (call_eq s0p) (.cons s0star e3 .nil) (blt_len (i := 6) (ao := .il xs) rfl rfl (by omega))
  have e6 : EvE pw (Kx P₀ a o) fL 40 (.Subscript (subV e0R) (.Slice (some (.Call (callF e0N) [cutE (.Name (Str.ofString "script") (posE (subV e0A))) (subS e0A) (sliHi (subS e0A)) (posE e0A)] [] (callP e0N))) none none (posE (subS e0R))) (posE e0R)) (sI a [.il xs] none) (.obj 7) (sI a [.il xs, mo, .il xs, .il (moreL.drop (xs.length : Int).toNat)] none) :=
    .slice (i := 5) (ao := mo) (xs := moreL) (kl := some (xs.length : Int)) (kh := none) (σ₃ := sI a [.il xs, mo, .il xs] none) e2 (.some e5 rfl) .none rfl hmo (by decide) (gcons (by omega) g0)
  have e7 := EvE.addL (i := 4) (j := 7) (pos := posE (valE (lst 0))) (ao := .il xs) (bo := .il (moreL.drop (xs.length : Int).toNat)) e1 e6 rfl rfl rfl rfl (by simp only [List.length_drop]; have : moreL.length = 11 := rfl; omega)
  have e8 := EvS.assignL (x := Str.ofString "drawn") (pos' := posE (tgAs (lst 0))) (pos := posOfS (lst 0)) rfl e7 (s0w a) s0k2 (fun env => swaps_plain rfl)
  rw [s0st]
  have e9 := e8.wk (σ'' := sI2 [.il xs, mo, .il xs, .il (moreL.drop (xs.length : Int).toNat), .il (xs ++ moreL.drop (xs.length : Int).toNat)] (some (.obj 8))) .refl (s0wk a [] (.obj 8)) rfl
  have e10 := e9.gc (sel := [0, 1, 2, 3, 8]) (out' := .next) (s0sel a (.il (xs ++ moreL.drop (xs.length : Int).toNat)) (.il xs) mo (.il xs) (.il (moreL.drop (xs.length : Int).toNat))) (s0ren (xs ++ moreL.drop (xs.length : Int).toNat) (.il xs) mo (.il xs) (.il (moreL.drop (xs.length : Int).toNat))) rfl
  unfold drawn
  rw [hx]
  exact e10
theorem drawn_len (ns : List Int) : (drawn ns).length = 11 := by
  unfold drawn
  rw [List.length_append, List.length_drop, Int.toNat_natCast]
  exact Nat.add_sub_of_le (by rw [List.length_take]; exact Nat.min_le_left _ _)
end Mine
/-! text J1 -/
open PySem PySem.W PyProof.Rows PySem.Spec PySem.Calls
set_option Elab.async false
set_option maxRecDepth 100000
set_option maxHeartbeats 0
namespace Mine
/-! the law's body -/
theorem law_list : lawF.body = [lst 0, lst 1, lst 2, lst 3, lst 4, lst 5, lst 6, lst 7, lst 8, lst 9, lst 10, lst 11, lst 12, lst 13, lst 14, lst 15, lst 16, lst 17, lst 18, lst 19, lst 20, lst 21, lst 22, lst 23] := by kernel_rfl
/-- from the drawn numbers on -/
theorem tail_ok (D : List Int) (hD : D.length = 11) : ∃ σ', EvB pw K fL 40 [lst 1, lst 2, lst 3, lst 4, lst 5, lst 6, lst 7, lst 8, lst 9, lst 10, lst 11, lst 12, lst 13, lst 14, lst 15, lst 16, lst 17, lst 18, lst 19, lst 20, lst 21, lst 22, lst 23] (stL none none none none [.il D] [some (.obj 4)]) (.ret (.bool true)) σ' := by
  have ho : 512 ≤ 512 + D.sum.fmod 256 ∧ 512 + D.sum.fmod 256 ≤ 767 := by
    have h0 := fmod_nn D.sum (show (0 : Int) < 256 by decide)
    have h1 : D.sum.fmod 256 < 256 := Int.fmod_lt_of_pos _ (by decide)
    omega
  have t1 := s1 D
  generalize 512 + D.sum.fmod 256 = o at *
  have t2 := s2 D o
  obtain ⟨u, s, hu, t3⟩ := s3 D o hD
  obtain ⟨C, hst⟩ := cfg_of D
  generalize pat D = P at *
  have t4 := s4 D P o s u hu hD
  generalize txt D = T at *
  have hP := C.pl
  have hT := C.tl
  have t5 := s5 D P T o s u hu
  have t6 := s6 D P T o s u hu ho.1 ho.2
  have H := memB_ok C ho.1 ho.2
  have hM := memA_len ho.1 ho.2
  generalize memA o (rawO o) = M₀ at *
  have t7 := s7 D P T M₀ o s u hu (by omega) hP hT
  generalize memB M₀ P T = N at *
  have hN := H.len
  have t8 := s8 D P T M₀ N o s u hu (by omega)
  have t9 := s9 D P T M₀ N o s u hu
  obtain ⟨u1, hu1, t10⟩ := s10_11 D P T M₀ N o s u hu hT
  rw [ans_ok] at t10
  have t12 := s12 D P T M₀ N o s (b2i (mt P T)) u1 hu1 hT
  have t13 := s13_ D P T M₀ N (rest0 T) o s (b2i (mt P T)) u1
  obtain ⟨p, f1, f2, t14⟩ := s14 D P T M₀ N (rest0 T) o s (b2i (mt P T)) u1 hP hT
  have t15 := s15_ D P T M₀ N (rest0 T) o s (b2i (mt P T)) p u1 hu1
  obtain ⟨y, u2, hu2, f3, t16⟩ := s16_ D P T M₀ N o s (b2i (mt P T)) p u1 hu1 hP hT
  have t17 := s17 D P T M₀ N o s p (b2i (mt P T)) p y u2 (by omega)
  obtain ⟨n, m', hn, R, hpc, E⟩ := run_main C H hst
  obtain ⟨e1, e2⟩ := ends C p y f1 f2 f3
  rw [e1, e2] at E
  generalize N.set (16 : Int).toNat (b2i (mt P T)) = N' at *
  have t18 := s18 D P T M₀ N N' o s p (b2i (mt P T)) p y u2
  have t19 := s19 D P T M₀ N N' o s p (b2i (mt P T)) p y u2
  have t20 := s20 D P T M₀ N' o s p (b2i (mt P T)) p y u2 n _ m' R hpc hn
  have t21 := s21 D P T M₀ N' o s p (b2i (mt P T)) p y u2 m' n
  have t22 := s22w D P T M₀ N' o s p (b2i (mt P T)) p y u2 m' n
  obtain ⟨e, t23⟩ := s23 D P T M₀ N' o s p (b2i (mt P T)) p y u2 m' n E
  have z : EvB pw K fL 40 [lst 12, lst 13, lst 14, lst 15, lst 16, lst 17, lst 18, lst 19, lst 20, lst 21, lst 22, lst 23] _ (.ret (.bool true)) _ :=
    .cons t12 (.cons t13 (.cons t14 (.cons t15 (.cons t16 (.cons t17 (.cons t18 (.cons t19 (.cons t20 (.cons t21 (.cons t22 (.stop (t23.more (Nat.le_succ _)) (fun h => nomatch h))))))))))))
  have z2 : EvB pw K fL 40 ([lst 10, lst 11] ++ [lst 12, lst 13, lst 14, lst 15, lst 16, lst 17, lst 18, lst 19, lst 20, lst 21, lst 22, lst 23]) _ (.ret (.bool true)) _ := t10.app z
  exact ⟨_, .cons t1 (.cons t2 (.cons t3 (.cons t4 (.cons t5 (.cons t6 (.cons t7 (.cons t8 (.cons t9 z2))))))))⟩
end Mine
/-! text J2 -/
open PySem PySem.W PyProof.Rows PySem.Spec PySem.Calls
set_option Elab.async false
set_option maxRecDepth 100000
set_option maxHeartbeats 0
namespace Mine
/-! from the entry to the end -/
theorem body_eq : dLaw.body = lawF.body := by kernel_rfl
theorem scope_eq : dLaw.scope = lawF.cs := by kernel_rfl
theorem kind_eq : lawF.cs.kind = .function := by kernel_rfl
theorem cells_eq (L : Nat) : cellsFrom (L + 1) dLaw.scope.names [] = [(Str.ofString "rest", L + 1 + 1 + 1 + 1), (Str.ofString "reached", L + 1 + 1 + 1), (Str.ofString "text", L + 1 + 1), (Str.ofString "sign", L + 1)] := by kernel_rfl
theorem post_ok (args : List WData) : rw4.claim.post args (.bool true) args = true := by kernel_rfl
theorem dp_ok (e : Env) : (callerA.deeper e).depth + 40 < recursionLimit := by show 1 + claimMargin + 1 + 40 < recursionLimit; decide +kernel
theorem un_ok (e : Env) : (callerA.deeper e).units + 8 * 40 + 8 < cLine := by
  show 4 + 3 + 8 * 40 + 8 < cLine; decide +kernel
theorem lnames_nd : lnames.Nodup := by decide +kernel
theorem c_lk1 (a b c d : Addr) : List.lookup (Str.ofString "reached") [(Str.ofString "rest", a), (Str.ofString "reached", b), (Str.ofString "text", c), (Str.ofString "sign", d)] = some b := by kernel_rfl
theorem c_lk2 (a b c d : Addr) : List.lookup (Str.ofString "text") [(Str.ofString "rest", a), (Str.ofString "reached", b), (Str.ofString "text", c), (Str.ofString "sign", d)] = some c := by kernel_rfl
theorem c_lk3 (a b c d : Addr) : List.lookup (Str.ofString "sign") [(Str.ofString "rest", a), (Str.ofString "reached", b), (Str.ofString "text", c), (Str.ofString "sign", d)] = some d := by kernel_rfl
theorem sI_keys (a : Addr) : ((sI a [] none).locs.map (·.1)).Nodup := by
  show ((lnames.zip (some (AV.val (.ref a)) :: none :: List.replicate 16 none)).map (·.1)).Nodup
  rw [show (lnames.zip (some (AV.val (.ref a)) :: none :: List.replicate 16 none)).map (·.1) = lnames from List.map_fst_zip (by simp [lnames])]
  exact lnames_nd
theorem sI_mem {a : Addr} {x : Str} {av : AV} (h : (x, some av) ∈ (sI a [] none).locs) : x = Str.ofString "script" ∧ av = .val (.ref a) := by
  have h : (x, some av) ∈ lnames.zip (some (AV.val (.ref a)) :: none :: List.replicate 16 none) := h
  unfold lnames at h
  rw [List.zip_cons_cons] at h
  rcases List.mem_cons.mp h with h | h
  · cases h; exact ⟨rfl, rfl⟩
  · have := (List.of_mem_zip h).2
    simp at this
section
variable {w : World} {cl : Str → Option Addr} {mean : ExcName → Option Value} {mg mb : Str → Option Value} {s₁ : Shared} {fa a : Addr} {cd : Value} {o : Obj} {vs : List Value} {ns : List Int} {h₁ : Heap} {tk : Nat} {m : Str → Option Value} {o1 o2 o3 o4 : Obj} {loose : List Str}
theorem fin_ok (hg : s₁.gens = #[]) (KX : (K w.params).In s₁.heap) (T : Top q loose mean mg mb s₁.heap) (hL : s₁.heap.IsList a vs.toArray) (hI : IntsAre vs ns) (hn : ns.length ≤ 63) (F : Fr s₁.heap s₁.heap.objs.size h₁ m) (hm : m (Str.ofString "script") = some (.ref a))
    (d4 : o4.data = .cell none) (d3 : o3.data = .cell none) (d2 : o2.data = .cell none) (d1 : o1.data = .cell none) (N : News s₁.heap s₁.heap.objs.size h₁ [(s₁.heap.objs.size + 1 + 1 + 1 + 1, o4), (s₁.heap.objs.size + 1 + 1 + 1, o3), (s₁.heap.objs.size + 1 + 1, o2), (s₁.heap.objs.size + 1, o1)])
    (args : List WData) (Q : Flow → Shared → Prop) (E : Value → Shared → Prop) (hQ : ∀ s', GoodW rw4.claim cl mean args s₁ (.ok (.ret (.bool true))) s' → Q (.ret (.bool true)) s') :
    wpAny (model rw4.prog w) (callerA.deeper (envOfC dLaw.name dLaw.scope s₁.heap.objs.size fa cd)) (execs dLaw.body (envOfC dLaw.name dLaw.scope s₁.heap.objs.size fa cd)) Q E { heap := h₁, gens := s₁.gens, drawn := s₁.drawn, toks := tk, os := s₁.os } := by
  obtain ⟨o, ho, hc, n, hd⟩ := hL
  have hs : Same w.params a o := fun o' e => by
    have := KX a o' e
    rw [ho] at this
    exact (Option.some.inj this).symm
  obtain ⟨σ', B⟩ := tail_ok (drawn ns) (drawn_len ns)
  have B0 : EvB pw (Kx w.params a o) fL 40 lawF.body (sI a [] none) (.ret (.bool true)) σ' := by
    rw [law_list]
    exact .cons (s0 (n := n) hs hc hd (by simpa using hI) hn) (B.kx hs)
  rw [body_eq]
  refine B0 ⟨w, callerA.deeper (envOfC dLaw.name dLaw.scope s₁.heap.objs.size fa cd), s₁.heap, s₁.heap.objs.size, envOfC dLaw.name dLaw.scope s₁.heap.objs.size fa cd, [], none, [], s₁.gens, s₁.os⟩ ?_ [s₁.heap.objs.size + 1 + 1 + 1 + 1, s₁.heap.objs.size + 1 + 1 + 1, s₁.heap.objs.size + 1 + 1, s₁.heap.objs.size + 1] [o4, o3, o2, o1] m _ Q E ?_ ?_
  · exact {
      scope := scope_eq
      globals := rfl
      builtins := rfl
      kin := Kx_of KX ho
      top := ⟨_, _, _, _, _, T⟩
      kind := kind_eq
      depth := dp_ok _
      units := un_ok _
      handled := rfl
      fn := fun _ => ⟨rfl, rfl, rfl, ⟨callerA, s₁.heap, below_caller _⟩, rfl⟩
      cmp := fun e => nomatch e }
  · exact {
      gens := rfl
      os_ := rfl
      fr := F
      news := by rw [List.append_nil]; exact N
      len := rfl
      len' := rfl
      nodup := by simp; omega
      objs := fun i ao x h1 h2 => by
        match i, h1, h2 with
        | 0, h1, h2 => cases h1; cases h2; exact ⟨none, d4, trivial⟩
        | 1, h1, h2 => cases h1; cases h2; exact ⟨none, d3, trivial⟩
        | 2, h1, h2 => cases h1; cases h2; exact ⟨none, d2, trivial⟩
        | 3, h1, h2 => cases h1; cases h2; exact ⟨none, d1, trivial⟩
        | k + 4, h1, h2 => cases h2
      locs := fun x av h => by
        obtain ⟨rfl, rfl⟩ := sI_mem h
        exact ⟨_, hm, rfl⟩
      keys := sI_keys a
      cells := fun x i h => by
        show ∃ b, (cellsFrom (s₁.heap.objs.size + 1) dLaw.scope.names []).lookup x = some b ∧ _
        rw [cells_eq]
        rcases List.mem_cons.mp h with h | h
        · cases h; exact ⟨_, by rw [List.lookup_cons_self], rfl⟩
        rcases List.mem_cons.mp h with h | h
        · cases h; exact ⟨_, c_lk1 _ _ _ _, rfl⟩
        rcases List.mem_cons.mp h with h | h
        · cases h; exact ⟨_, c_lk2 _ _ _ _, rfl⟩
        rcases List.mem_cons.mp h with h | h
        · cases h; exact ⟨_, c_lk3 _ _ _ _, rfl⟩
        · exact nomatch h
      comp := fun _ e => nomatch e }
  · intro bs os' m' v s' rv R
    obtain ⟨u, rfl, ru⟩ := rv
    obtain rfl : u = .bool true := ru
    exact hQ s' (goodW_bool R.fr (R.gens.trans hg) (fun _ => rfl) (post_ok args) R.os_)
end
end Mine
/-! text J3 -/
open PySem PySem.W PyProof.Rows PySem.Spec PySem.Calls
set_option Elab.async false
set_option maxRecDepth 100000
set_option maxHeartbeats 0
namespace Mine
theorem scr_ok (L : Nat) (fa a : Addr) (cd pm doc : Value) : bindL (envOfC dLaw.name dLaw.scope L fa cd).kindOf
      (List.filterMap
        (fun n =>
          Option.map (fun x => (n, x))
            (List.lookup n
              (((List.map (fun x => x.arg)
                              (docDef dLaw.name dLaw.params dLaw.body dLaw.scope pm cd
                                    doc).params.posonlyargs ++
                            List.map (fun x => x.arg)
                              (docDef dLaw.name dLaw.params dLaw.body dLaw.scope pm cd
                                    doc).params.args).zip
                        (Args.mk [Value.ref a] []).pos,
                      ([] : List Str)).fst,
                  ([] : List Str)).fst))
        (List.map (fun x => x.arg)
              (docDef dLaw.name dLaw.params dLaw.body dLaw.scope pm cd doc).params.posonlyargs ++
            List.map (fun x => x.arg)
              (docDef dLaw.name dLaw.params dLaw.body dLaw.scope pm cd doc).params.args ++
          List.map (fun x => x.arg)
            (docDef dLaw.name dLaw.params dLaw.body dLaw.scope pm cd doc).params.kwonlyargs))
      (fun _ => none) (Str.ofString "script") = some (.ref a) := by kernel_rfl
theorem cel_ok (L : Nat) (fa a : Addr) (cd pm doc : Value) (x : Str) : bindC (envOfC dLaw.name dLaw.scope L fa cd).kindOf
      (List.filterMap
        (fun n =>
          Option.map (fun x => (n, x))
            (List.lookup n
              (((List.map (fun x => x.arg)
                              (docDef dLaw.name dLaw.params dLaw.body dLaw.scope pm cd
                                    doc).params.posonlyargs ++
                            List.map (fun x => x.arg)
                              (docDef dLaw.name dLaw.params dLaw.body dLaw.scope pm cd
                                    doc).params.args).zip
                        (Args.mk [Value.ref a] []).pos,
                      ([] : List Str)).fst,
                  ([] : List Str)).fst))
        (List.map (fun x => x.arg)
              (docDef dLaw.name dLaw.params dLaw.body dLaw.scope pm cd doc).params.posonlyargs ++
            List.map (fun x => x.arg)
              (docDef dLaw.name dLaw.params dLaw.body dLaw.scope pm cd doc).params.args ++
          List.map (fun x => x.arg)
            (docDef dLaw.name dLaw.params dLaw.body dLaw.scope pm cd doc).params.kwonlyargs))
      (fun _ => none) x = none := by kernel_rfl
end Mine
/-! text QE -/
open PySem PySem.W PyProof.Rows PySem.Spec PySem.Calls
set_option Elab.async false
set_option maxRecDepth 100000
set_option maxHeartbeats 0
namespace Mine
theorem cell_of {o : Obj} {v u : Option Value} (h : o.data = .cell v) (e : v = u) : o.data = .cell u := e ▸ h
theorem walk : WalkO q looseQ (XL q []) (kHook K Kas Kas_eq).says rw4.toRowW dLaw [] (fun f vs => PySem.call f vs) := by
  intro w s₀ s₁ mg mb G Y fa o pm cd doc dV kV ho hd hcd hD hmg hg args vals as hpre hlay hrd hwl hlo
  have KX := kIn_of Y
  refine Ground.open G ?_
  intro T B D TE TW
  obtain ⟨_, _, M⟩ := bmod_of_top T
  have TA := at_of_top T
  clear hmg
  wrow_args hpre hlay hrd hwl hlo
  first | refine callC_kw (enter_call ?_) | refine enter_call ?_ | refine callC_kw (enter_callW ?_) | refine enter_callW ?_
  w_top on
  try refine codeAny_mono ?_ (fun _ _ g => GoodW.toG g)
  have K0 := below_caller (Top.heap T)
  w_call any ho hd hcd hD T F
  rename_i m1 m2 ns q1 q2 q3 q4 q5 q6 q7 a vs q8 hL q9 q10 q11 hI q12 hc1 hc2 h1 tk o4 o3 o2 o1 d4 d3 d2 d1 N X0
  refine fin_ok hg KX T hL hI (by omega) F (scr_ok _ _ _ _ _ _) (cell_of d4 (cel_ok _ _ _ _ _ _ _)) (cell_of d3 (cel_ok _ _ _ _ _ _ _)) (cell_of d2 (cel_ok _ _ _ _ _ _ _)) (cell_of d1 (cel_ok _ _ _ _ _ _ _)) N _ _ _ (fun s' h => h)
end Mine
theorem PySem.Challenge.cw_im0095_04_holds : PySem.Challenge.rw_im0095_04.Holds :=
  Mine.hd Mine.walk
