import PyProof.Rows.All
import PyProof.Rows.ExtendIn
import KE.BitLaws
import KE.KItem
import KE.KTup
import KE.KNest
import Wide.FinOn
import OpenK.AllK
import Wide.All
import PySem.Challenge.RW_im0095_03
set_option Elab.async false
set_option maxRecDepth 100000
set_option maxHeartbeats 0
open PySem PySem.W PyProof.Rows PySem.Spec PySem.Calls
set_option genSizeOf false
set_option genInjectivity false
namespace Mine
theorem no_ {α : Type} {a : α} {C : Prop} (h : (none : Option α) = some a) : C := nomatch h
theorem nb_ {C : Prop} (h : false = true) : C := nomatch h
inductive Blt where
  | len | sum | range | isinstance | bool | str
noncomputable def Blt.value : Blt → Value
  | .len => .builtin "len"
  | .sum => .builtin "sum"
  | .range => .type "range"
  | .isinstance => .builtin "isinstance"
  | .bool => .type "bool"
  | .str => .type "str"
inductive AV where
  | cint (i : Int)
  | int (i : Int)
  | any
  | str (x : Str)
  | cb (b : Bool)
  | bool (b : Bool)
  | obj (i : Nat)
  | val (v : Value)
  | blt (b : Blt)
  | top
/-- a def in a body -/
structure FnC where
  name : Str
  qual : Str
  params : Arguments
  body : List Stmt
  cs : Scope
  xs : List Str
  rest : List Str
inductive AO where
  | list (xs : List AV)
  | il (xs : List Int)
  | tup (xs : List AV)
  | dict (es : List (Str × AV))
  | inst (C : Addr) (d : Nat)
  | attrs (es : List (Str × AV))
  | meth (f : Addr) (self : AV)
  | cell (v : Option AV)
  | rng (a b c : Int)
  | fn (F : FnC) (cl : List (Str × Nat)) (cd : Nat)
  | code (q : Str)
  | tab (ps : List Pos)
  | junk
structure S where
  objs : List AO
  locs : List (Str × Option AV)
  cells : List (Str × Nat)
noncomputable def RV (as : List Addr) : AV → Value → Prop
  | .cint i, v => ∃ t, v = .int i t
  | .int i, v => ∃ t, v = .int i t
  | .any, v => ∃ i t, v = .int i t
  | .str x, v => ∃ t, v = .str x t
  | .cb b, v => v = .bool b
  | .bool b, v => v = .bool b
  | .obj i, v => ∃ a, as[i]? = some a ∧ v = .ref a
  | .val u, v => v = u
  | .blt b, v => v = b.value
  | .top, _ => True
inductive RVs (as : List Addr) : List AV → List Value → Prop
  | nil : RVs as [] []
  | cons {x xs v vs} : RV as x v → RVs as xs vs → RVs as (x :: xs) (v :: vs)
noncomputable def RE (P : Params) (as : List Addr) (p : Str × AV) (e : DictEntry) : Prop := ∃ t v, e = ⟨PyData.keyHash P p.1, .str p.1 t, v⟩ ∧ RV as p.2 v
inductive REs (P : Params) (as : List Addr) : List (Str × AV) → List DictEntry → Prop
  | nil : REs P as [] []
  | cons {p ps e es} : RE P as p e → REs P as ps es → REs P as (p :: ps) (e :: es)
inductive RCs (as : List Addr) : List (Str × Nat) → List (Str × Addr) → Prop
  | nil : RCs as [] []
  | cons {x i a xs vs} : as[i]? = some a → RCs as xs vs → RCs as ((x, i) :: xs) ((x, a) :: vs)
/-- the table of a code object: places and code objects, the newest first -/
inductive TabIs : List Pos → Array Value → Prop
  | nil : TabIs [] #[]
  | add {p ps a} (c : Addr) : TabIs ps a → TabIs (p :: ps) (a ++ #[rawInt p.line, rawInt p.col, .ref c])
noncomputable def RO (P : Params) (as : List Addr) : AO → Obj → Prop
  | .list xs, o => ∃ vs n, o = listOf vs n ∧ RVs as xs vs.toList
  | .il xs, o => ∃ vs n, o = listOf vs n ∧ IntsAre vs.toList xs
  | .tup xs, o => ∃ vs n, o = { cls := .type "tuple", data := .seq vs n } ∧ RVs as xs vs.toList
  | .dict es, o => ∃ l n, o = dictOf l n ∧ REs P as es l ∧ (es.map (·.1)).Nodup
  | .inst C d, o => ∃ a, as[d]? = some a ∧ o = instObj C a
  | .attrs es, o => ∃ l n, o = dictOf l n ∧ REs P as es l ∧ (es.map (·.1)).Nodup
  | .meth f x, o => ∃ v, RV as x v ∧ o = methodObj (.ref f) v
  | .cell v, o => ∃ u, o.data = .cell u ∧ match v, u with | some x, some y => RV as x y | none, none => True | _, _ => False
  | .rng a b c, o => ∃ t u v, o = { cls := .type "range", data := .fields #[.int a t, .int b u, .int c v] }
  | .fn F cl cd, o => ∃ bs ce doc pm ctv, RCs as cl bs ∧ as[cd]? = some ce ∧ o = fnMade F.name F.qual F.params F.body F.cs bs doc pm ce ctv
  | .code q, o => ∃ vs t, o.data = .fields vs ∧ vs[1]? = some (.str q t)
  | .tab ps, o => ∃ a, TabIs ps a ∧ o = tabObj a
  | .junk, _ => True
theorem getElem?_app {α : Type} {l r : List α} {i : Nat} {a : α} (h : l[i]? = some a) : (l ++ r)[i]? = some a := by
  rw [List.getElem?_append_left (List.getElem?_eq_some_iff.mp h).1]; exact h
/-- another list of addresses that tells the same at the named places -/
noncomputable def Le (as bs : List Addr) : Prop := ∀ (i : Nat) a, as[i]? = some a → bs[i]? = some a
theorem Le.app {as bs : List Addr} : Le as (as ++ bs) := fun _ _ h => getElem?_app h
theorem RV.le {as bs : List Addr} {x : AV} {v : Value} (q : Le as bs) (h : RV as x v) : RV bs x v := by
  cases x with
  | obj i => obtain ⟨a, e, r⟩ := h; exact ⟨a, q _ _ e, r⟩
  | _ => exact h
theorem RV.up {as bs : List Addr} {x : AV} {v : Value} (h : RV as x v) : RV (as ++ bs) x v := h.le .app
theorem RVs.le {as bs : List Addr} {xs : List AV} {vs : List Value} (q : Le as bs) (h : RVs as xs vs) : RVs bs xs vs := by
  induction h with
  | nil => exact .nil
  | cons h _ ih => exact .cons (h.le q) ih
theorem RVs.up {as bs : List Addr} {xs : List AV} {vs : List Value} (h : RVs as xs vs) : RVs (as ++ bs) xs vs := h.le .app
theorem REs.le {P : Params} {as bs : List Addr} {xs : List (Str × AV)} {vs : List DictEntry} (q : Le as bs) (h : REs P as xs vs) : REs P bs xs vs := by
  induction h with
  | nil => exact .nil
  | cons h _ ih => obtain ⟨t, v, e, r⟩ := h; exact .cons ⟨t, v, e, r.le q⟩ ih
theorem RCs.le {as bs : List Addr} {xs : List (Str × Nat)} {vs : List (Str × Addr)} (q : Le as bs) (h : RCs as xs vs) : RCs bs xs vs := by
  induction h with
  | nil => exact .nil
  | cons h _ ih => exact .cons (q _ _ h) ih
theorem RO.le {P : Params} {as bs : List Addr} {x : AO} {o : Obj} (q : Le as bs) (h : RO P as x o) : RO P bs x o := by
  cases x with
  | list xs => obtain ⟨vs, n, d, r⟩ := h; exact ⟨vs, n, d, r.le q⟩
  | il xs => exact h
  | tup xs => obtain ⟨vs, n, d, r⟩ := h; exact ⟨vs, n, d, r.le q⟩
  | dict es => obtain ⟨l, n, e, r, k⟩ := h; exact ⟨l, n, e, r.le q, k⟩
  | inst C d => obtain ⟨a, e, r⟩ := h; exact ⟨a, q _ _ e, r⟩
  | attrs es => obtain ⟨l, n, e, r, k⟩ := h; exact ⟨l, n, e, r.le q, k⟩
  | meth f x => obtain ⟨v, r, e⟩ := h; exact ⟨v, r.le q, e⟩
  | cell v =>
    obtain ⟨u, e, r⟩ := h
    refine ⟨u, e, ?_⟩
    cases v <;> cases u <;> first | exact r.le q | exact r
  | rng a b c => exact h
  | fn F cl cd => obtain ⟨bs, ce, doc, pm, ctv, r, e, z⟩ := h; exact ⟨bs, ce, doc, pm, ctv, r.le q, q _ _ e, z⟩
  | code n => exact h
  | tab ps => exact h
  | junk => trivial
theorem RO.up {P : Params} {as bs : List Addr} {x : AO} {o : Obj} (h : RO P as x o) : RO P (as ++ bs) x o := h.le .app
structure Fx where
  cs : Scope
  fn : Bool
structure Cx where
  w : World
  A : Around
  h₀ : Heap
  L : Addr
  env : Env
  rest : List (Addr × Obj)
  comp : Option ((Str → Option Value) × (Str → Option Value))
  outer : List Env
  gens : Array GenState
  os : OsState
noncomputable def Cx.lm (c : Cx) (m : Str → Option Value) : Str → Option Value := match c.comp with
  | none => m
  | some p => p.2
structure At (c : Cx) (as : List Addr) (os : List Obj) (m : Str → Option Value) (σ : S) (s : Shared) : Prop where
  gens : s.gens = c.gens
  os_ : s.os = c.os
  fr : Fr c.h₀ c.L s.heap m
  news : News c.h₀ c.L s.heap (as.zip os ++ c.rest)
  len : os.length = as.length
  len' : σ.objs.length = as.length
  nodup : (as ++ c.rest.map (·.1)).Nodup
  objs : ∀ (i : Nat) ao o, σ.objs[i]? = some ao → os[i]? = some o → RO c.w.params as ao o
  locs : ∀ (x : Str) av, (x, some av) ∈ σ.locs → ∃ v, c.lm m x = some v ∧ RV as av v
  keys : (σ.locs.map (·.1)).Nodup
  cells : ∀ (x : Str) (i : Nat), (x, i) ∈ σ.cells → ∃ a, c.env.cells.lookup x = some a ∧ as[i]? = some a
  comp : ∀ p, c.comp = some p → m = p.1
structure Ok (K : Params → Frag) (f : Fx) (d : Nat) (c : Cx) : Prop where
  scope : c.env.scope = f.cs
  globals : c.env.globals = mainGlobals
  builtins : c.env.builtins = builtinsNs
  kin : (K c.w.params).In c.h₀
  top : ∃ p loose mean mg mb, Top p loose mean mg mb c.h₀
  kind : f.cs.kind = .function
  depth : c.A.depth + d < recursionLimit
  units : c.A.units + 8 * d + 8 < cLine
  handled : c.A.handled = none
  fn : f.fn = true → c.comp = none ∧ c.env.locals = c.L ∧ c.env.frame = some c.L ∧ (∃ A₀ base, Below A₀ base c.outer c.h₀) ∧ c.A.frames = some (c.env :: c.outer)
  cmp : f.fn = false → ∃ C oC m₀ m₂, c.comp = some (m₀, m₂) ∧ c.env.locals = C ∧ (C, oC) ∈ c.rest ∧ LCg.NsObj oC m₂
section
variable {c : Cx} {as : List Addr} {os : List Obj} {m : Str → Option Value} {σ : S} {s : Shared}
theorem zip_mem {as : List Addr} {os : List Obj} {i : Nat} {a : Addr} {o : Obj} (h1 : as[i]? = some a) (h2 : os[i]? = some o) : (a, o) ∈ as.zip os :=
  List.mem_of_getElem? (i := i) (by rw [List.getElem?_zip_eq_some]; exact ⟨h1, h2⟩)
/-- a told object -/
inductive ObjI (c : Cx) (as : List Addr) (os : List Obj) (s : Shared) (i : Nat) (ao : AO) : Prop
  | mk (a : Addr) (o : Obj) (h1 : as[i]? = some a) (h2 : os[i]? = some o) (hm : (a, o) ∈ as.zip os ++ c.rest) (h3 : s.heap.get? a = some o) (r : RO c.w.params as ao o) : ObjI c as os s i ao
theorem At.obj (R : At c as os m σ s) {i : Nat} {ao : AO} (h : σ.objs[i]? = some ao) : ObjI c as os s i ao := by
  have hi := (List.getElem?_eq_some_iff.mp h).1
  have h1 : i < as.length := by rw [← R.len']; exact hi
  have h2 : i < os.length := by rw [R.len]; exact h1
  have e1 : as[i]? = some as[i] := List.getElem?_eq_getElem h1
  have e2 : os[i]? = some os[i] := List.getElem?_eq_getElem h2
  have mem : (as[i], os[i]) ∈ as.zip os ++ c.rest := List.mem_append_left _ (zip_mem e1 e2)
  exact ⟨_, _, e1, e2, mem, (R.news _ mem).1, R.objs i ao _ h e2⟩
/-- the heap has grown beside what is told -/
theorem At.move {s' : Shared} {m' : Str → Option Value} (R : At c as os m σ s) (hg : s'.gens = s.gens) (ho : s'.os = s.os) (F : Fr c.h₀ c.L s'.heap m') (N : News c.h₀ c.L s'.heap (as.zip os ++ c.rest))
    (hl : ∀ (x : Str) av, (x, some av) ∈ σ.locs → c.lm m' x = c.lm m x) (hc : c.comp ≠ none → m' = m) : At c as os m' σ s' :=
  { gens := hg.trans R.gens, os_ := ho.trans R.os_, fr := F, news := N, len := R.len, len' := R.len', nodup := R.nodup, objs := R.objs, locs := fun x av h => by rw [hl x av h]; exact R.locs x av h, keys := R.keys, cells := R.cells,
    comp := fun p e => by rw [hc (by rw [e]; exact fun h => nomatch h)]; exact R.comp p e }
theorem At.toks (R : At c as os m σ s) (t : Nat) : At c as os m σ { s with toks := t } :=
  R.move rfl rfl R.fr R.news (fun _ _ _ => rfl) fun _ => rfl
theorem not_mem_of_lt {as : List Addr} {os : List Obj} {rest : List (Addr × Obj)} {a : Addr} (len : os.length = as.length) (hf : ∀ p ∈ as.zip os ++ rest, p.1 < a) : a ∉ as ++ rest.map (·.1) := fun q => by
  rcases List.mem_append.mp q with q | q
  · obtain ⟨i, hi, e⟩ := List.getElem_of_mem q
    have h2 : i < os.length := by rw [len]; exact hi
    have mem := zip_mem (as := as) (os := os) (List.getElem?_eq_getElem hi) (List.getElem?_eq_getElem h2)
    have := hf _ (List.mem_append_left _ mem)
    dsimp only at this
    rw [e] at this
    exact Nat.lt_irrefl _ this
  · obtain ⟨p, hp, rfl⟩ := List.mem_map.mp q
    exact Nat.lt_irrefl _ (hf _ (List.mem_append_right _ hp))
/-- a new object, told -/
theorem At.new {s' : Shared} {a : Addr} {o : Obj} {ao : AO} (R : At c as os m σ s) (hg : s'.gens = s.gens) (ho : s'.os = s.os) (F : Fr c.h₀ c.L s'.heap m) (N : News c.h₀ c.L s'.heap ((a, o) :: (as.zip os ++ c.rest))) (hf : a ∉ as ++ c.rest.map (·.1))
    (r : RO c.w.params (as ++ [a]) ao o) : At c (as ++ [a]) (os ++ [o]) m { σ with objs := σ.objs ++ [ao] } s' where
  gens := hg.trans R.gens
  os_ := ho.trans R.os_
  fr := F
  news := by
    rw [List.zip_append R.len.symm]
    intro p hp
    rcases List.mem_append.mp hp with h | h
    · rcases List.mem_append.mp h with h | h
      · exact N p (.tail _ (List.mem_append_left _ h))
      · exact N p (by cases h with | head => exact .head _ | tail _ h => cases h)
    · exact N p (.tail _ (List.mem_append_right _ h))
  len := by simp [R.len]
  len' := by simp [R.len']
  nodup := by
    rw [List.append_assoc]
    generalize hb : c.rest.map (·.1) = bs
    have hf' : a ∉ as ++ bs := hb ▸ hf
    have nd := R.nodup
    rw [hb] at nd
    exact (List.perm_append_comm_assoc as [a] bs).nodup_iff.mpr (List.nodup_cons.mpr ⟨hf', nd⟩)
  objs := fun i x y h1 h2 => by
    by_cases hi : i < σ.objs.length
    · rw [List.getElem?_append_left hi] at h1
      have : i < os.length := by rw [R.len, ← R.len']; exact hi
      rw [List.getElem?_append_left this] at h2
      exact (R.objs i x y h1 h2).up
    · have e : σ.objs.length = os.length := by rw [R.len, R.len']
      rw [List.getElem?_append_right (by lia)] at h1
      rw [List.getElem?_append_right (by lia)] at h2
      rw [← e] at h2
      cases q : i - σ.objs.length with
      | zero => rw [q] at h1 h2; cases h1; cases h2; exact r
      | succ k => rw [q] at h1; simp at h1
  locs := fun x av h => let ⟨v, h1, h2⟩ := R.locs x av h; ⟨v, h1, h2.up⟩
  keys := R.keys
  cells := fun x i h => let ⟨a, h1, h2⟩ := R.cells x i h; ⟨a, h1, getElem?_app h2⟩
  comp := R.comp
theorem zip_split : ∀ {as : List Addr} {os : List Obj} {i : Nat} {a : Addr} {o : Obj} (o' : Obj), as[i]? = some a → os[i]? = some o → as.Nodup →
    ∃ pre post, as.zip os = pre ++ (a, o) :: post ∧ as.zip (os.set i o') = pre ++ (a, o') :: post ∧ (∀ p ∈ pre, p.1 ≠ a) ∧ ∀ p ∈ post, p.1 ≠ a
  | [], _, _, _, _, _, h, _, _ => by simp at h
  | _ :: _, [], _, _, _, _, _, h, _ => by simp at h
  | b :: as, x :: os, 0, a, o, o', h1, h2, nd => by
    simp at h1 h2
    subst h1 h2
    refine ⟨[], as.zip os, rfl, rfl, fun _ h => (nomatch h), fun p hp e => ?_⟩
    obtain ⟨p1, p2⟩ := p
    exact (List.nodup_cons.mp nd).1 (e ▸ (List.of_mem_zip hp).1)
  | b :: as, x :: os, i + 1, a, o, o', h1, h2, nd => by
    simp only [List.getElem?_cons_succ] at h1 h2
    obtain ⟨pre, post, e1, e2, d1, d2⟩ := zip_split o' h1 h2 (List.nodup_cons.mp nd).2
    refine ⟨(b, x) :: pre, post, by simp [e1], by simp [e2], fun p hp => ?_, d2⟩
    rcases List.mem_cons.mp hp with rfl | hp
    · exact fun (e : b = a) => (List.nodup_cons.mp nd).1 (by rw [e]; exact List.mem_of_getElem? h1)
    · exact d1 p hp
theorem upd_zip {as : List Addr} {os : List Obj} {rest : List (Addr × Obj)} {i : Nat} {a : Addr} {o : Obj} (o' : Obj) (h1 : as[i]? = some a) (h2 : os[i]? = some o) (nd : (as ++ rest.map (·.1)).Nodup) : Upd a o o' (as.zip os ++ rest) (as.zip (os.set i o') ++ rest) := by
  have nd' := List.nodup_append.mp nd
  obtain ⟨pre, post, e1, e2, d1, d2⟩ := zip_split o' h1 h2 nd'.1
  have d3 : ∀ p ∈ post ++ rest, p.1 ≠ a := fun p hp => by
    rcases List.mem_append.mp hp with hp | hp
    · exact d2 p hp
    · exact fun e => nd'.2.2 a (List.mem_of_getElem? h1) p.1 (List.mem_map_of_mem (f := (·.1)) hp) e.symm
  rw [e1, e2]
  clear e1 e2
  induction pre with
  | nil => exact .head d3
  | cons p pre ih => exact .tail (d1 p (.head _)) (ih fun q hq => d1 q (.tail _ hq))
/-- a told object has changed -/
theorem At.upd {s' : Shared} {i : Nat} {o' : Obj} {ao' : AO} (R : At c as os m σ s) (hg : s'.gens = s.gens) (ho : s'.os = s.os) (F : Fr c.h₀ c.L s'.heap m) (N : News c.h₀ c.L s'.heap (as.zip (os.set i o') ++ c.rest))
    (r : RO c.w.params as ao' o') : At c as (os.set i o') m { σ with objs := σ.objs.set i ao' } s' where
  gens := hg.trans R.gens
  os_ := ho.trans R.os_
  fr := F
  news := N
  len := by simp [R.len]
  len' := by simp [R.len']
  nodup := R.nodup
  objs := fun j x y h1 h2 => by
    by_cases e : i = j
    · subst e
      rw [List.getElem?_set] at h1 h2
      simp only [if_true] at h1 h2
      split at h1 <;> split at h2 <;> first | (cases h1; cases h2; exact r) | (cases h1; done) | (cases h2; done)
    · rw [List.getElem?_set_ne e] at h1 h2
      exact R.objs j x y h1 h2
  locs := R.locs
  keys := R.keys
  cells := R.cells
  comp := R.comp
end
inductive Out where
  | next | brk | cont
  | ret (v : AV)
noncomputable def ROut (as : List Addr) : Out → Flow → Prop
  | .next, f => f = .next
  | .brk, f => f = .brk
  | .cont, f => f = .cont
  | .ret x, f => ∃ v, f = .ret v ∧ RV as x v
section
variable (prog : Program) (K : Params → Frag)
/-- the tree t, run in the frame c from σ, ends with a value that x tells, in σ' -/
noncomputable def Does (c : Cx) (t : Sem Value) (σ : S) (x : AV) (σ' : S) : Prop :=
  ∀ as os m s (Q : Value → Shared → Prop) (E : Value → Shared → Prop), At c as os m σ s →
    (∀ bs os' m' v s', RV (as ++ bs) x v → At c (as ++ bs) os' m' σ' s' → Q v s') → wpAny (model prog c.w) c.A t Q E s
noncomputable def DoesF (c : Cx) (t : Sem Flow) (σ : S) (x : Out) (σ' : S) : Prop :=
  ∀ as os m s (Q : Flow → Shared → Prop) (E : Value → Shared → Prop), At c as os m σ s →
    (∀ bs os' m' v s', ROut (as ++ bs) x v → At c (as ++ bs) os' m' σ' s' → Q v s') → wpAny (model prog c.w) c.A t Q E s
noncomputable def DoesB (c : Cx) (t : Sem Bool) (σ : S) (x : Bool) (σ' : S) : Prop :=
  ∀ as os m s (Q : Bool → Shared → Prop) (E : Value → Shared → Prop), At c as os m σ s →
    (∀ bs os' m' s', At c (as ++ bs) os' m' σ' s' → Q x s') → wpAny (model prog c.w) c.A t Q E s
noncomputable def DoesVs (c : Cx) (t : Sem (List Value)) (σ : S) (xs : List AV) (σ' : S) : Prop :=
  ∀ as os m s (Q : List Value → Shared → Prop) (E : Value → Shared → Prop), At c as os m σ s →
    (∀ bs os' m' vs s', RVs (as ++ bs) xs vs → At c (as ++ bs) os' m' σ' s' → Q vs s') → wpAny (model prog c.w) c.A t Q E s
noncomputable def EvE (f : Fx) (d : Nat) (e : Expr) (σ : S) (x : AV) (σ' : S) : Prop := ∀ c : Cx, Ok K f d c → Does prog c (eval e c.env) σ x σ'
noncomputable def EvS (f : Fx) (d : Nat) (st : Stmt) (σ : S) (x : Out) (σ' : S) : Prop := ∀ c : Cx, Ok K f d c → DoesF prog c (exec st c.env) σ x σ'
noncomputable def EvB (f : Fx) (d : Nat) (b : List Stmt) (σ : S) (x : Out) (σ' : S) : Prop := ∀ c : Cx, Ok K f d c → DoesF prog c (execs b c.env) σ x σ'
noncomputable def EvT (f : Fx) (d : Nat) (e : Expr) (σ : S) (b : Bool) (σ' : S) : Prop := ∀ c : Cx, Ok K f d c → DoesB prog c (PySem.isTrue e c.env (eval e c.env)) σ b σ'
/-- a call of the function at fa, from any frame -/
noncomputable def CallT (d : Nat) (fa : Addr) (args : List AV) (objs : List AO) (x : AV) (objs' : List AO) : Prop :=
  ∀ (f : Fx) (c : Cx) (σ : S), f.fn = true → Ok K f (d + 1) c → σ.objs = objs → ∀ as os m s (vs : List Value) (Q : Value → Shared → Prop) (E : Value → Shared → Prop), At c as os m σ s → RVs as args vs →
    (∀ bs os' m' v s', RV (as ++ bs) x v → At c (as ++ bs) os' m' { σ with objs := objs' } s' → Q v s') →
      codeAny (model prog c.w) c.A (.call (.ref fa) ⟨vs, []⟩) (fun r s' => match r with | .ok (.ret v) => Q v s' | .ok _ => False | .error e => E e s') s
/-- the arguments of a call, the items of a display -/
noncomputable def EvA (f : Fx) (d : Nat) (es : List Expr) (σ : S) (xs : List AV) (σ' : S) : Prop := ∀ (c : Cx) (pos : Pos), Ok K f d c → DoesVs prog c (spliced (backTo pos (starEach es c.env))) σ xs σ'
end
theorem app_nil {as : List Addr} : as ++ [] = as := List.append_nil as
theorem Ok.weak {K : Params → Frag} {f : Fx} {d e : Nat} {c : Cx} (h : Ok K f d c) (le : e ≤ d) : Ok K f e c :=
  { h with depth := by have := h.depth; lia, units := by have := h.units; lia }
noncomputable def look {α : Type} (x : Str) : List (Str × α) → Option α
  | [] => none
  | (y, v) :: r => match Fast.sEq y x with
    | true => some v
    | false => look x r
theorem look_mem {α : Type} {x : Str} {v : α} : ∀ {l : List (Str × α)}, look x l = some v → (x, v) ∈ l
  | [], h => by cases h
  | (y, u) :: r, h => by
    unfold look at h
    cases e : Fast.sEq y x with
    | true => rw [e] at h; have := Fast.sEq_iff.mp e; subst this; cases h; exact .head _
    | false => rw [e] at h; exact .tail _ (look_mem h)
theorem sEq_false {x y : Str} (h : Fast.sEq x y = false) : (x == y) = false := by
  rw [beq_eq_false_iff_ne]; intro e; rw [Fast.sEq_iff.mpr e] at h; cases h
theorem look_lookup {α : Type} {x : Str} : ∀ {l : List (Str × α)}, look x l = l.lookup x
  | [] => rfl
  | (y, u) :: r => by
    unfold look
    rw [List.lookup_cons]
    cases e : Fast.sEq y x with
    | true => have := Fast.sEq_iff.mp e; subst this; simp
    | false =>
      have : (x == y) = false := by
        rw [beq_eq_false_iff_ne]; intro q; subst q; rw [Fast.sEq_iff.mpr rfl] at e; cases e
      rw [this]
      exact look_lookup
noncomputable def setLoc (x : Str) (v : AV) : List (Str × Option AV) → Option (List (Str × Option AV))
  | [] => none
  | (y, u) :: r => match Fast.sEq y x with
    | true => some ((y, some v) :: r)
    | false => match setLoc x v r with
      | some r' => some ((y, u) :: r')
      | none => none
theorem setLoc_cons {x y : Str} {v : AV} {u : Option AV} {r l' : List (Str × Option AV)} (h : setLoc x v ((y, u) :: r) = some l') : (y = x ∧ l' = (y, some v) :: r) ∨ (y ≠ x ∧ ∃ r', setLoc x v r = some r' ∧ l' = (y, u) :: r') := by
  unfold setLoc at h
  cases e : Fast.sEq y x with
  | true => rw [e] at h; cases h; exact .inl ⟨Fast.sEq_iff.mp e, rfl⟩
  | false =>
    rw [e] at h
    refine .inr ⟨fun q => (by rw [Fast.sEq_iff.mpr q] at e; cases e), ?_⟩
    cases q : setLoc x v r with
    | none => rw [q] at h; first | exact no_ h | cases h
    | some r' => rw [q] at h; cases h; exact ⟨r', rfl, rfl⟩
theorem setLoc_keys {x : Str} {v : AV} : ∀ {l l' : List (Str × Option AV)}, setLoc x v l = some l' → l'.map (·.1) = l.map (·.1)
  | [], _, h => by cases h
  | (y, u) :: r, l', h => by
    rcases setLoc_cons h with ⟨_, rfl⟩ | ⟨_, r', h1, rfl⟩
    · rfl
    · simp [setLoc_keys h1]
theorem setLoc_mem {x : Str} {v : AV} : ∀ {l l' : List (Str × Option AV)}, setLoc x v l = some l' → (l.map (·.1)).Nodup → ∀ y u, (y, u) ∈ l' → (y = x ∧ u = some v) ∨ (y ≠ x ∧ (y, u) ∈ l)
  | [], _, h, _, _, _, _ => by cases h
  | (z, w) :: r, l', h, nd, y, u, hm => by
    have nd' := List.nodup_cons.mp (show (z :: r.map (·.1)).Nodup from nd)
    rcases setLoc_cons h with ⟨e, rfl⟩ | ⟨ne, r', h1, rfl⟩
    · subst e
      rcases List.mem_cons.mp hm with q | q
      · cases q; exact .inl ⟨rfl, rfl⟩
      · refine .inr ⟨fun q' => nd'.1 ?_, .tail _ q⟩
        subst q'
        exact List.mem_map_of_mem (f := (·.1)) q
    · rcases List.mem_cons.mp hm with q | q
      · cases q
        exact .inr ⟨ne, .head _⟩
      · rcases setLoc_mem h1 nd'.2 y u q with q | q
        · exact .inl q
        · exact .inr ⟨q.1, .tail _ q.2⟩
noncomputable def nd (x : Str) : Bool := match Fast.sEq x "__debug__" with
  | true => false
  | false => match Fast.sEq x "__classdict__" with
    | true => false
    | false => match Fast.sEq x "__name__" with
      | true => false
      | false => true
theorem nd_of {x : Str} (h : nd x = true) : (x == ("__debug__" : Str)) = false ∧ (x == ("__classdict__" : Str)) = false ∧ x ≠ "__name__" := by
  unfold nd at h
  cases e : Fast.sEq x "__debug__" with
  | true => rw [e] at h; first | exact no_ h | cases h
  | false =>
    cases e2 : Fast.sEq x "__classdict__" with
    | true => rw [e, e2] at h; cases h
    | false =>
      cases e3 : Fast.sEq x "__name__" with
      | true => rw [e, e2, e3] at h; cases h
      | false => exact ⟨sEq_false e, sEq_false e2, fun q => by rw [Fast.sEq_iff.mpr q] at e3; cases e3⟩
section
variable {prog : Program} {K : Params → Frag} {f : Fx} {d : Nat} {σ σ₁ σ₂ σ₃ : S} {c : Cx} {as : List Addr} {os : List Obj} {m : Str → Option Value} {s : Shared}
theorem Ok.kindOf (ok : Ok K f d c) {x : Str} {k : NameKind} (h : look x f.cs.names = some k) : c.env.kindOf x = some k := by
  show c.env.scope.names.lookup x = some k
  rw [ok.scope, ← look_lookup]; exact h
theorem Ok.kind' (ok : Ok K f d c) : c.env.scope.kind = .function := by rw [ok.scope]; exact ok.kind
theorem Ok.ns (ok : Ok K f d c) (R : At c as os m σ s) : s.heap.Ns c.env.locals (c.lm m) := by
  cases e : f.fn with
  | true =>
    obtain ⟨h1, h2, _⟩ := ok.fn e
    rw [h2]
    unfold Cx.lm
    rw [h1]
    exact R.fr.ns
  | false =>
    obtain ⟨C, oC, m₀, m₂, h1, h2, h3, h4⟩ := ok.cmp e
    rw [h2]
    unfold Cx.lm
    rw [h1]
    exact h4.ns (R.news _ (List.mem_append_right _ h3)).1
theorem EvE.cint {i : Int} {k : Nat} {pos : Pos} : EvE prog K f d (.Constant (.int i) k pos) σ (.cint i) σ := by
  intro c ok as os m s Q E R h
  refine wpAny_Constant_int (h [] os m _ _ ?_ ?_)
  · exact ⟨_, rfl⟩
  · rw [app_nil]; exact R.toks _
theorem EvE.cnone {k : Nat} {pos : Pos} : EvE prog K f d (.Constant .none k pos) σ (.val .none) σ := by
  intro c ok as os m s Q E R h
  exact wpAny_Constant_none (h [] os m _ _ rfl (by rw [app_nil]; exact R))
theorem EvE.loc {x : Str} {pos : Pos} {av : AV} (hl : look x σ.locs = some (some av)) (hk : look x f.cs.names = some .local) (hd : nd x = true) : EvE prog K f d (.Name x pos) σ av σ := by
  intro c ok as os m s Q E R h
  obtain ⟨v, hv, r⟩ := R.locs x av (look_mem hl)
  refine wpAny_Name (wpAny_loadName_local ok.kind' (ok.kindOf hk) (ok.ns R) hv (h [] os m v s ?_ ?_)) (nd_of hd).1
  · rw [app_nil]; exact r
  · rw [app_nil]; exact R
theorem EvE.cellN {x : Str} {pos : Pos} {av : AV} {i : Nat} {k : NameKind} (hl : look x σ.cells = some i) (ho : σ.objs[i]? = some (.cell (some av))) (hk : look x f.cs.names = some k) (hk' : k = .cell ∨ k = .free) (hd : nd x = true) : EvE prog K f d (.Name x pos) σ av σ := by
  intro c ok as os m s Q E R h
  obtain ⟨a, h1, h2⟩ := R.cells x i (look_mem hl)
  obtain ⟨a', o, g1, _, _, g2, u, g3, g4⟩ := R.obj ho
  rw [h2] at g1; cases g1
  cases u with
  | none => exact g4.elim
  | some y =>
    have key : Q y s := h [] os m y s (by rw [app_nil]; exact g4) (by rw [app_nil]; exact R)
    rcases hk' with rfl | rfl
    · exact wpAny_Name (wpAny_loadName_cell ok.kind' (ok.kindOf hk) h1 ⟨o, g2, g3⟩ key) (nd_of hd).1
    · exact wpAny_Name (wpAny_loadName_free ok.kind' (ok.kindOf hk) h1 ⟨o, g2, g3⟩ key (nd_of hd).2.1) (nd_of hd).1
theorem EvE.glob {x : Str} {pos : Pos} {v : Value} (hg : ∀ P, nsIn (K P) mainGlobals x = some (some v)) (hk : look x f.cs.names = some .globalImplicit) (hd : nd x = true) : EvE prog K f d (.Name x pos) σ (.val v) σ := by
  intro c ok as os m s Q E R h
  obtain ⟨p, loose, mean, mg, mb, T⟩ := ok.top
  refine Name_function_global ok.kind' (ok.kindOf hk) (loadGlobal_global (by rw [ok.globals]; exact T.g.keeps R.fr.keep) (mg_of ok.kin T.g (hg _)) (h [] os m v s rfl (by rw [app_nil]; exact R))) (nd_of hd).1
theorem EvE.built {x : Str} {pos : Pos} {v : Blt} (hg : ∀ P, nsIn (K P) mainGlobals x = some none) (hv : bootBuiltins x = some v.value) (hk : look x f.cs.names = some .globalImplicit) (hd : nd x = true) : EvE prog K f d (.Name x pos) σ (.blt v) σ := by
  intro c ok as os m s Q E R h
  obtain ⟨p, loose, mean, mg, mb, T⟩ := ok.top
  refine Name_function_global ok.kind' (ok.kindOf hk) (loadGlobal_builtin (by rw [ok.globals]; exact T.g.keeps R.fr.keep) (mg_none_of ok.kin T.g (hg _)) (by rw [ok.builtins]; exact T.b.keeps R.fr.keep) ((T.builtins x (nd_of hd).2.2).trans hv) (h [] os m v.value s rfl (by rw [app_nil]; exact R))) (nd_of hd).1
theorem store_local {x : Str} {av : AV} {v : Value} {l : List (Str × Option AV)} {Q : Unit → Shared → Prop} {E : Value → Shared → Prop} (hf : f.fn = true) (ok : Ok K f d c) (R : At c as os m σ s) (r : RV as av v)
    (e : setLoc x av σ.locs = some l) (hk : look x f.cs.names = some .local) (h : ∀ m' s', At c as os m' { σ with locs := l } s' → Q () s') : wpAny (model prog c.w) c.A (storeName c.env x v) Q E s := by
  obtain ⟨h1, h2, _⟩ := ok.fn hf
  refine wpAny_storeName_local (m := m) (ok.kindOf hk) (by rw [h2]; exact R.fr.ns) (fun h' hn hs => ?_) (by rw [ok.kind']; rfl)
  rw [h2] at hn hs
  refine h (fun y => if y = x then some v else m y) _ ?_
  have lm : ∀ m' : Str → Option Value, c.lm m' = m' := fun m' => by unfold Cx.lm; rw [h1]
  exact
  { gens := R.gens, os_ := R.os_, fr := R.fr.set hn hs, news := R.news.set hs, len := R.len, len' := R.len', nodup := R.nodup, objs := R.objs
    locs := fun y u h => by
      rw [lm]
      rcases setLoc_mem e R.keys y (some u) h with ⟨rfl, q⟩ | ⟨q, h'⟩
      · cases q; exact ⟨v, if_pos rfl, r⟩
      · obtain ⟨v', g1, g2⟩ := R.locs y u h'
        rw [lm] at g1
        exact ⟨v', by rw [if_neg q]; exact g1, g2⟩
    keys := by rw [setLoc_keys e]; exact R.keys
    cells := R.cells
    comp := fun p e => by rw [h1] at e; cases e }
theorem store_cell {x : Str} {av : AV} {v : Value} {i : Nat} {u : Option AV} {Q : Unit → Shared → Prop} {E : Value → Shared → Prop} (ok : Ok K f d c) (R : At c as os m σ s) (r : RV as av v)
    (hl : look x σ.cells = some i) (ho : σ.objs[i]? = some (.cell u)) (hk : look x f.cs.names = some .cell) (h : ∀ os' s', At c as os' m { σ with objs := σ.objs.set i (.cell (some av)) } s' → Q () s') : wpAny (model prog c.w) c.A (storeName c.env x v) Q E s := by
  obtain ⟨a, h1, h2⟩ := R.cells x i (look_mem hl)
  obtain ⟨a', o, g1, g1', gm, g2, w, g3, _⟩ := R.obj ho
  rw [h2] at g1; cases g1
  have U := fun o' => upd_zip (as := as) (os := os) (rest := c.rest) (i := i) (a := a) (o := o) o' h2 g1' R.nodup
  refine wpAny_storeName_cell ok.kind' (ok.kindOf hk) h1 ⟨o, g2, g3⟩ fun h' hv hs => ?_
  obtain ⟨o', ho', hd'⟩ := hv
  obtain ⟨pre, post, e1, e2, d1, d2⟩ := (U o').split
  have N := R.news
  have hmem := N _ gm
  rw [e1] at N
  refine h (os.set i o') _ (R.upd rfl rfl ⟨R.fr.ns.sameBut hs (Ne.symm hmem.2.1), fun b ob e => (hs.2 b (fun q => ?_)).trans (R.fr.keep b ob e), R.fr.above⟩ (by rw [e2]; exact N.setAt d1 d2 hs ho') ⟨_, hd', r⟩)
  rw [q, hmem.2.2] at e; cases e
end
noncomputable def setA (x : Str) (v : AV) : List (Str × AV) → List (Str × AV)
  | [] => [(x, v)]
  | (y, u) :: r => match Fast.sEq y x with
    | true => (y, v) :: r
    | false => (y, u) :: setA x v r
noncomputable def hand : AV → Bool
  | .val u => handedIn u
  | .blt _ => false
  | .top => false
  | _ => true
theorem hand_of {as : List Addr} {x : AV} {v : Value} (h : hand x = true) (r : RV as x v) : handedIn v = true := by
  cases x with
  | cint i => obtain ⟨t, rfl⟩ := r; rfl
  | int i => obtain ⟨t, rfl⟩ := r; rfl
  | any => obtain ⟨i, t, rfl⟩ := r; rfl
  | str i => obtain ⟨t, rfl⟩ := r; rfl
  | cb b => obtain rfl : v = .bool b := r; rfl
  | bool b => obtain rfl : v = .bool b := r; rfl
  | obj i => obtain ⟨t, _, rfl⟩ := r; rfl
  | val u => obtain rfl : v = u := r; exact h
  | blt b => cases h
  | top => first | exact no_ h | cases h
theorem isStr_str (x y : Str) (t : Tok) : (Value.str x t).isStr y = (x == y) := rfl
theorem look_some {P : Params} {as : List Addr} {x : Str} {av : AV} : ∀ {es : List (Str × AV)} {l : List DictEntry}, REs P as es l → look x es = some av → ∃ e t v, l.find? (·.key.isStr x) = some e ∧ e = ⟨PyData.keyHash P x, .str x t, v⟩ ∧ RV as av v
  | _, _, .nil, h => by cases h
  | (y, u) :: r, _, .cons (e := e) (es := l) ⟨t, v, he, rv⟩ rest, h => by
    subst he
    unfold look at h
    cases q : Fast.sEq y x with
    | true =>
      rw [q] at h; first | exact no_ h | cases h
      have := Fast.sEq_iff.mp q; subst this
      exact ⟨_, t, v, by rw [List.find?_cons]; simp [isStr_str], rfl, rv⟩
    | false =>
      rw [q] at h
      obtain ⟨e', t', v', h1, h2⟩ := look_some rest h
      refine ⟨e', t', v', ?_, h2⟩
      rw [List.find?_cons, isStr_str, sEq_false q]; exact h1
theorem look_none {P : Params} {as : List Addr} {x : Str} : ∀ {es : List (Str × AV)} {l : List DictEntry}, REs P as es l → look x es = none → l.find? (·.key.isStr x) = none ∧ l.any (·.refKey) = false
  | _, _, .nil, _ => ⟨rfl, rfl⟩
  | (y, u) :: r, _, .cons (e := e) (es := l) ⟨t, v, he, rv⟩ rest, h => by
    subst he
    unfold look at h
    cases q : Fast.sEq y x with
    | true => rw [q] at h; first | exact no_ h | cases h
    | false =>
      rw [q] at h
      obtain ⟨h1, h2⟩ := look_none rest h
      refine ⟨?_, ?_⟩
      · rw [List.find?_cons, isStr_str, sEq_false q]; exact h1
      · rw [List.any_cons, h2]; rfl
theorem getL_some {P : Params} {as : List Addr} {x : Str} {av : AV} {es : List (Str × AV)} {l : List DictEntry} (r : REs P as es l) (h : look x es = some av) : ∃ v, getL x l = some (some v) ∧ RV as av v := by
  obtain ⟨e, t, v, h1, h2, h3⟩ := look_some r h
  subst h2
  exact ⟨v, by unfold getL; rw [h1], h3⟩
theorem getL_none {P : Params} {as : List Addr} {x : Str} {es : List (Str × AV)} {l : List DictEntry} (r : REs P as es l) (h : look x es = none) : getL x l = some none := by
  obtain ⟨h1, h2⟩ := look_none r h
  unfold getL; rw [h1, h2]; rfl
theorem putL_of {P : Params} {as : List Addr} {x : Str} {av : AV} {v : Value} {t : Tok} (rv : RV as av v) : ∀ {es : List (Str × AV)} {l : List DictEntry}, REs P as es l → REs P as (setA x av es) (putL x (PyData.keyHash P x) (.str x t) v l)
  | _, _, .nil => .cons ⟨t, v, rfl, rv⟩ .nil
  | (y, u) :: r, _, .cons (e := e) (es := l) ⟨t', v', he, rv'⟩ rest => by
    subst he
    unfold setA putL
    dsimp only
    rw [isStr_str]
    cases q : Fast.sEq y x with
    | true =>
      have := Fast.sEq_iff.mp q; subst this
      rw [if_pos (by simp)]
      exact .cons ⟨t', v, rfl, rv⟩ rest
    | false =>
      rw [sEq_false q]
      exact .cons ⟨t', v', rfl, rv'⟩ (putL_of rv rest)
theorem setA_keys {x : Str} {v : AV} : ∀ (es : List (Str × AV)), ∀ k ∈ (setA x v es).map (·.1), k = x ∨ k ∈ es.map (·.1)
  | [], k, h => by left; simpa [setA] using h
  | (y, u) :: r, k, h => by
    unfold setA at h
    cases q : Fast.sEq y x with
    | true => rw [q] at h; exact .inr h
    | false =>
      rw [q] at h
      rcases List.mem_cons.mp (show k ∈ y :: (setA x v r).map (·.1) from h) with rfl | h
      · exact .inr (.head _)
      · rcases setA_keys r k h with h | h
        · exact .inl h
        · exact .inr (.tail _ h)
theorem setA_nodup {x : Str} {v : AV} : ∀ (es : List (Str × AV)), (es.map (·.1)).Nodup → ((setA x v es).map (·.1)).Nodup
  | [], _ => by simp [setA]
  | (y, u) :: r, h => by
    have h' := List.nodup_cons.mp (show (y :: r.map (·.1)).Nodup from h)
    unfold setA
    cases q : Fast.sEq y x with
    | true => exact h
    | false =>
      show (y :: (setA x v r).map (·.1)).Nodup
      refine List.nodup_cons.mpr ⟨fun hm => ?_, setA_nodup r h'.2⟩
      rcases setA_keys r y hm with e | hm
      · rw [Fast.sEq_iff.mpr e] at q; cases q
      · exact h'.1 hm
theorem REs.length {P : Params} {as : List Addr} {es : List (Str × AV)} {l : List DictEntry} (h : REs P as es l) : l.length = es.length := by
  induction h with
  | nil => rfl
  | cons _ _ ih => simp [ih]
theorem setA_len {x : Str} {v : AV} : ∀ es : List (Str × AV), (setA x v es).length ≤ es.length + 1
  | [] => by simp [setA]
  | (y, u) :: r => by
    unfold setA
    have := setA_len (x := x) (v := v) r
    cases Fast.sEq y x with
    | true => simp
    | false => simp; omega
noncomputable def ownName (k : Frag) (C : Addr) (x : Str) : Bool := plainGet k C x && hasDictIn k C && (match findIn k (.ref C) x with | some none => true | _ => false)
theorem ownName_of {k : Frag} {C : Addr} {x : Str} (h : ownName k C x = true) : plainGet k C x = true ∧ hasDictIn k C = true ∧ findIn k (.ref C) x = some none := by
  unfold ownName at h
  obtain ⟨h', c3⟩ := Bool.and_eq_true_iff.mp h
  obtain ⟨c1, c2⟩ := Bool.and_eq_true_iff.mp h'
  refine ⟨c1, c2, ?_⟩
  split at c3
  · assumption
  · cases c3
noncomputable def clsName (k : Frag) (C : Addr) (x : Str) (a : Value) : Bool := plainGet k C x && hasDictIn k C && (findIn k (.ref C) x == some (some a)) && (specialIn k a "__get__" == some none) && handedIn a && !copiedNames.contains x
noncomputable def setName (k : Frag) (C : Addr) (x : Str) : Bool := (findIn k (.ref C) "__setattr__" == some (some (.builtin "object.__setattr__"))) && plainOver k C && (match takerIn k C x with | some none => true | _ => false) && hasDictIn k C
noncomputable def methName (k : Frag) (C : Addr) (x : Str) (f : Addr) : Bool := plainGet k C x && hasDictIn k C && (findIn k (.ref C) x == some (some (.ref f))) && isFn k (.ref f) && fnIn k f && (specialIn k (.ref f) "__get__" == some (some (.builtin "function.__get__"))) && (takesIn k (.ref f) == some false) && !copiedNames.contains x
section
variable {prog : Program} {K : Params → Frag} {f : Fx} {d : Nat} {σ σ₁ σ₂ σ₃ : S}
/-- what a frame has of an instance -/
inductive InsI (c : Cx) (as : List Addr) (os : List Obj) (s : Shared) (i j : Nat) (C : Addr) (es : List (Str × AV)) : Prop
  | mk (x dx : Addr) (l : List DictEntry) (n : Nat) (h1 : as[i]? = some x) (h2 : as[j]? = some dx) (h3 : os[j]? = some (dictOf l n)) (h4 : InstAt s.heap x (instObj C dx) C (some (dictOf l n))) (h5 : REs c.w.params as es l) (h6 : (es.map (·.1)).Nodup) : InsI c as os s i j C es
theorem At.inst {c : Cx} {as : List Addr} {os : List Obj} {m : Str → Option Value} {σ : S} {s : Shared} {i j : Nat} {C : Addr} {es : List (Str × AV)} (R : At c as os m σ s) (hi : σ.objs[i]? = some (.inst C j)) (hj : σ.objs[j]? = some (.attrs es)) : InsI c as os s i j C es := by
  obtain ⟨x, o, h1, h2, _, h4, a, h5, rfl⟩ := R.obj hi
  obtain ⟨dx, od, g1, g2, _, g4', l, n, rfl, g5, g6⟩ := R.obj hj
  have q : a = dx := Option.some.inj (h5.symm.trans g1)
  subst q
  exact ⟨x, a, l, n, h1, g1, g2, ⟨h4, rfl, rfl, g4'⟩, g5, g6⟩
theorem EvE.attr {n : Str} {np pos : Pos} {x : Str} {i j : Nat} {C : Addr} {es : List (Str × AV)} {av : AV} (h : EvE prog K f d (.Name n np) σ (.obj i) σ₁) (hi : σ₁.objs[i]? = some (.inst C j)) (hj : σ₁.objs[j]? = some (.attrs es))
    (hc : ∀ P, ownName (K P) C x = true) (hg : look x es = some av) (hh : hand av = true) : EvE prog K f d (.Attribute (.Name n np) x pos) σ av σ₁ := by
  intro c ok as os m s Q E R hq
  refine Attribute_name (h c ok as os m s _ E R fun bs os₁ m₁ v s₁ rv R₁ => ?_)
  obtain ⟨ax, dx, l, nn, h1, h2, _, I, r, _⟩ := R₁.inst hi hj
  obtain ⟨a, h1', rfl⟩ := rv
  rw [h1] at h1'; cases h1'
  obtain ⟨u, hu, ru⟩ := getL_some r hg
  obtain ⟨c1, c2, c3⟩ := ownName_of (hc c.w.params)
  exact get_own R₁.fr ok.kin I c1 c2 c3 rfl hu (hand_of hh ru) (hq _ _ _ _ _ ru (R₁.toks _))
theorem EvE.clsAttr {n : Str} {np pos : Pos} {x : Str} {i j : Nat} {C : Addr} {es : List (Str × AV)} {av : AV} {a : Value} (h : EvE prog K f d (.Name n np) σ (.obj i) σ₁) (hi : σ₁.objs[i]? = some (.inst C j)) (hj : σ₁.objs[j]? = some (.attrs es))
    (hc : ∀ P, clsName (K P) C x a = true) (hg : look x es = none) (ha : ∀ as, RV as av a) : EvE prog K f d (.Attribute (.Name n np) x pos) σ av σ₁ := by
  intro c ok as os m s Q E R hq
  refine Attribute_name (h c ok as os m s _ E R fun bs os₁ m₁ v s₁ rv R₁ => ?_)
  obtain ⟨ax, dx, l, nn, h1, h2, _, I, r, _⟩ := R₁.inst hi hj
  obtain ⟨a', h1', rfl⟩ := rv
  rw [h1] at h1'; cases h1'
  have hc' := hc c.w.params
  unfold clsName at hc'
  simp only [Bool.and_eq_true, beq_iff_eq, Bool.not_eq_true'] at hc'
  obtain ⟨⟨⟨⟨⟨c1, c2⟩, c3⟩, c4⟩, c5⟩, c6⟩ := hc'
  exact get_cls R₁.fr ok.kin I c1 c2 c3 c4 c5 c6 (getL_none r hg) (hq _ _ _ _ _ (ha _) (R₁.toks _))
theorem store_attr {c : Cx} {x : Str} {av : AV} {v : Value} {as : List Addr} {os : List Obj} {m : Str → Option Value} {s : Shared} {Q : Unit → Shared → Prop} {E : Value → Shared → Prop} {i j : Nat} {C ax : Addr} {es : List (Str × AV)} (ok : Ok K f d c) (R : At c as os m σ s) (r : RV as av v)
    (hi : σ.objs[i]? = some (.inst C j)) (hj : σ.objs[j]? = some (.attrs es)) (ha : as[i]? = some ax) (hc : ∀ P, setName (K P) C x = true) (hz : es.length ≤ 900)
    (h : ∀ os' s', At c as os' m { σ with objs := σ.objs.set j (.attrs (setA x av es)) } s' → Q () s') : wpAny (model prog c.w) c.A (setAttr (.ref ax) x v) Q E s := by
  obtain ⟨ax', dx, l, nn, h1, h2, h3, I, rr, nd⟩ := R.inst hi hj
  rw [ha] at h1; cases h1
  have hc' := hc c.w.params
  unfold setName at hc'
  simp only [Bool.and_eq_true, beq_iff_eq] at hc'
  obtain ⟨⟨⟨c1, c2⟩, c3⟩, c4⟩ := hc'
  have c3' : takerIn (K c.w.params) C x = some none := by
    split at c3
    · assumption
    · cases c3
  have p := putL_of (t := s.toks + 1) r rr (x := x)
  have hl : (getL x l).isSome = true := by
    cases q : look x es with
    | none => rw [getL_none rr q]; rfl
    | some y => obtain ⟨u, e, _⟩ := getL_some rr q; rw [e]; rfl
  have len : (putL x (PyData.keyHash c.w.params x) (.str x (s.toks + 1)) v l).length ≤ 1000 := by
    rw [p.length]
    have : (setA x av es).length ≤ es.length + 1 := by
      exact setA_len es
    omega
  refine set_dict R.fr ok.kin R.news I rfl c1 c2 c3' c4 hl rfl (upd_zip _ h2 h3 R.nodup) len fun h' F' N' => h _ _ (R.upd rfl rfl F' N' ⟨_, _, rfl, p, setA_nodup es nd⟩)
theorem EvS.setAttr {n : Str} {np pos' pos : Pos} {value : Expr} {x : Str} {av : AV} {i j : Nat} {C : Addr} {es : List (Str × AV)} (h : EvE prog K f d value σ av σ₁) (h2 : EvE prog K f d (.Name n np) σ₁ (.obj i) σ₂) (hi : σ₂.objs[i]? = some (.inst C j)) (hj : σ₂.objs[j]? = some (.attrs es))
    (hc : ∀ P, setName (K P) C x = true) (hz : es.length ≤ 900) (hs : ∀ env : Env, swapsWith value (some (.Attribute (.Name n np) x pos')) pos.line env = pure false) :
    EvS prog K f d (.Assign [.Attribute (.Name n np) x pos'] value pos) σ .next { σ₂ with objs := σ₂.objs.set j (.attrs (setA x av es)) } := by
  intro c ok as os m s Q E R hq
  refine plainObj_wpAny_Assign_Attribute (h c ok as os m s _ E R fun bs os₁ m₁ v s₁ rv R₁ => ?_) (hs _)
  refine h2 c ok _ os₁ m₁ s₁ _ E R₁ fun bs₂ os₂ m₂ u s₂ ru R₂ => ?_
  obtain ⟨a, ha, rfl⟩ := ru
  rw [List.append_assoc] at ha R₂
  exact store_attr ok R₂ (by rw [← List.append_assoc]; exact rv.up) hi hj ha hc hz fun os' s' R' => hq _ _ _ _ _ rfl R'
theorem EvS.augAttr {n : Str} {np tpos pos : Pos} {op : Operator} {value : Expr} {x : Str} {old v new : AV} {i j : Nat} {C : Addr} {es es₂ : List (Str × AV)} (h1 : EvE prog K f d (.Name n np) σ (.obj i) σ₁) (hi : σ₁.objs[i]? = some (.inst C j)) (hj : σ₁.objs[j]? = some (.attrs es))
    (hc : ∀ P, ownName (K P) C x = true) (hg : look x es = some old) (hh : hand old = true) (h2 : EvE prog K f d value σ₁ v σ₂)
    (ho : ∀ (w : World) (A : Around) (as : List Addr) (a b : Value) (s : Shared) (Q E : Value → Shared → Prop), RV as old a → RV as v b → (∀ v t, RV as new v → Q v { s with toks := t }) → wpAny (model prog w) A (inplaceOp op a b) Q E s)
    (hi2 : σ₂.objs[i]? = some (.inst C j)) (hj2 : σ₂.objs[j]? = some (.attrs es₂)) (hc2 : ∀ P, setName (K P) C x = true) (hz : es₂.length ≤ 900) :
    EvS prog K f d (.AugAssign (.Attribute (.Name n np) x tpos) op value pos) σ .next { σ₂ with objs := σ₂.objs.set j (.attrs (setA x new es₂)) } := by
  intro c ok as os m s Q E R hq
  refine wpAny_AugAssign_AttributeAny (h1 c ok as os m s _ E R fun bs os₁ m₁ o s₁ ro R₁ => ?_)
  obtain ⟨ax, dx, l, nn, g1, g2, _, I, r, _⟩ := R₁.inst hi hj
  obtain ⟨a, g1', rfl⟩ := ro
  rw [g1] at g1'; cases g1'
  obtain ⟨u, hu, ru⟩ := getL_some r hg
  obtain ⟨c1, c2, c3⟩ := ownName_of (hc c.w.params)
  refine get_own R₁.fr ok.kin I c1 c2 c3 rfl hu (hand_of hh ru) ?_
  refine h2 c ok _ os₁ m₁ _ _ E (R₁.toks _) fun bs₂ os₂ m₂ b s₂ rb R₂ => ?_
  refine ho c.w c.A (as ++ bs ++ bs₂) u b s₂ _ E ru.up rb fun r t rr => ?_
  rw [List.append_assoc] at rr R₂
  refine store_attr ok (R₂.toks t) rr hi2 hj2 (by rw [← List.append_assoc]; exact getElem?_app g1) hc2 hz fun os' s' R' => hq _ _ _ _ _ rfl R'
end
theorem RVs.length {as : List Addr} {xs : List AV} {vs : List Value} (h : RVs as xs vs) : vs.length = xs.length := by
  induction h with
  | nil => rfl
  | cons _ _ ih => simp [ih]
noncomputable def locs0 (xs : List Str) (args : List AV) (rest : List Str) : List (Str × Option AV) := (xs.zip args).map (fun p => (p.1, some p.2)) ++ rest.map (·, none)
theorem locs0_keys {xs rest : List Str} {args : List AV} (h : args.length = xs.length) : (locs0 xs args rest).map (·.1) = xs ++ rest := by
  unfold locs0
  rw [List.map_append, List.map_map, List.map_map]
  congr 1
  · exact List.map_fst_zip (by omega)
  · exact List.map_id rest
theorem zip_rel {as : List Addr} : ∀ {xs : List Str} {args : List AV} {vs : List Value}, RVs as args vs → ∀ x av, (x, av) ∈ xs.zip args → ∃ v, (x, v) ∈ xs.zip vs ∧ RV as av v
  | [], _, _, _, _, _, h => by simp at h
  | _ :: _, _, _, .nil, _, _, h => by simp at h
  | y :: xs, _, _, .cons r rs, x, av, h => by
    rcases List.mem_cons.mp (show (x, av) ∈ _ :: xs.zip _ from h) with e | h
    · cases e; exact ⟨_, .head _, r⟩
    · obtain ⟨v, h1, h2⟩ := zip_rel rs x av h
      exact ⟨v, .tail _ h1, h2⟩
theorem lookup_of_mem {l : List (Str × Value)} {x : Str} {v : Value} (h : (x, v) ∈ l) (nd : (l.map (·.1)).Nodup) : l.reverse.lookup x = some v := by
  have nd' : (l.reverse.map (·.1)).Nodup := by rw [List.map_reverse]; exact (List.reverse_perm _).nodup_iff.mpr nd
  have h' : (x, v) ∈ l.reverse := List.mem_reverse.mpr h
  generalize l.reverse = r at nd' h'
  induction r with
  | nil => cases h'
  | cons p r ih =>
    obtain ⟨y, u⟩ := p
    have n := List.nodup_cons.mp (show (y :: r.map (·.1)).Nodup from nd')
    rw [List.lookup_cons]
    rcases List.mem_cons.mp h' with e | h2
    · cases e; simp
    · have : (x == y) = false := by
        rw [beq_eq_false_iff_ne]; rintro rfl; exact n.1 (List.mem_map_of_mem (f := (·.1)) h2)
      rw [this]
      exact ih n.2 h2
theorem locs0_at {as : List Addr} {xs rest : List Str} {args : List AV} {vs : List Value} (rvs : RVs as args vs) (lv : vs.length = xs.length) (nd : xs.Nodup) : ∀ (y : Str) av, (y, some av) ∈ locs0 xs args rest → ∃ v, (xs.zip vs).reverse.lookup y = some v ∧ RV as av v := fun y av hm => by
  have keysV : (xs.zip vs).map (·.1) = xs := List.map_fst_zip (by omega)
  unfold locs0 at hm
  rcases List.mem_append.mp hm with h | h
  · obtain ⟨⟨z, u⟩, h1, h2⟩ := List.mem_map.mp h
    cases h2
    obtain ⟨v, h3, h4⟩ := zip_rel rvs _ _ h1
    exact ⟨v, lookup_of_mem h3 (by rw [keysV]; exact nd), h4⟩
  · obtain ⟨z, _, h2⟩ := List.mem_map.mp h
    cases h2
noncomputable def retO : Out → AV
  | .ret v => v
  | _ => .val .none
theorem retO_of {as : List Addr} {o : Out} {v : Flow} (rv : ROut as o v) : RV as (retO o) (match (generalizing := false) v with | .ret v => v | _ => .none) := by
  cases o with
  | ret y => obtain ⟨u, rfl, ru⟩ := rv; exact ru
  | next => obtain rfl : v = .next := rv; rfl
  | brk => obtain rfl : v = .brk := rv; rfl
  | cont => obtain rfl : v = .cont := rv; rfl
/-- what is known of a def: its names, its text -/
structure Fn where
  a : Addr
  name : Str
  qual : Str
  params : Arguments
  body : List Stmt
  cs : Scope
  dV : Value
  kV : Value
  doc : Value
  pm : Value
  an : Option Addr
  cd : Value
  ct : Value
  xs : List Str
  rest : List Str
abbrev Fn.data (F : Fn) : FuncData := fnX F.name F.qual F.params F.body F.cs [] F.dV F.kV F.doc F.pm F.an F.cd F.ct
noncomputable def Fn.obj (F : Fn) : Obj := ⟨.type "function", none, .func F.data, #[]⟩
structure FnOk (K : Params → Frag) (F : Fn) : Prop where
  at_ : ∀ P, (K P).lookup F.a = some F.obj
  code : ∀ P, codeIn (K P) F.cd F.qual = true
  bind : ∀ vs : List Value, vs.length = F.xs.length → bindArgs F.data ⟨vs, []⟩ = pure (F.xs.zip vs)
  loc : ∀ y ∈ F.xs, F.cs.names.lookup y = some .local
  nd : (F.xs ++ F.rest).Nodup
  cell : ∀ y ∈ F.cs.names, y.2 ≠ .cell
  co : F.cs.isCoroutine = false
  gen : F.cs.isGenerator = false
  kind : F.cs.kind = .function
/-- a call of any form -/
noncomputable def CallG (prog : Program) (K : Params → Frag) (cd : List Value → Code) (d : Nat) (args : List AV) (objs : List AO) (x : AV) (objs' : List AO) : Prop :=
  ∀ (f : Fx) (c : Cx) (σ : S), f.fn = true → Ok K f (d + 1) c → σ.objs = objs → ∀ as os m s (vs : List Value) (Q : Value → Shared → Prop) (E : Value → Shared → Prop), At c as os m σ s → RVs as args vs →
    (∀ bs os' m' v s', RV (as ++ bs) x v → At c (as ++ bs) os' m' { σ with objs := objs' } s' → Q v s') →
      codeAny (model prog c.w) c.A (cd vs) (fun r s' => match r with | .ok (.ret v) => Q v s' | .ok _ => False | .error e => E e s') s
/-- a call with any form of arguments -/
noncomputable def CallA (prog : Program) (K : Params → Frag) (mk : List Value → Args) (d : Nat) (fa : Addr) (args : List AV) (objs : List AO) (x : AV) (objs' : List AO) : Prop :=
  ∀ (f : Fx) (c : Cx) (σ : S), f.fn = true → Ok K f (d + 1) c → σ.objs = objs → ∀ as os m s (vs : List Value) (Q : Value → Shared → Prop) (E : Value → Shared → Prop), At c as os m σ s → RVs as args vs →
    (∀ bs os' m' v s', RV (as ++ bs) x v → At c (as ++ bs) os' m' { σ with objs := objs' } s' → Q v s') →
      codeAny (model prog c.w) c.A (.call (.ref fa) (mk vs)) (fun r s' => match r with | .ok (.ret v) => Q v s' | .ok _ => False | .error e => E e s') s
structure FnA (K : Params → Frag) (F : Fn) (mk : List Value → Args) : Prop where
  at_ : ∀ P, (K P).lookup F.a = some F.obj
  code : ∀ P, codeIn (K P) F.cd F.qual = true
  bind : ∀ P (vs : List Value) (s : Shared), vs.length = F.xs.length → (K P).In s.heap → BindsTo s F.data (mk vs) (F.xs.zip vs)
  loc : ∀ y ∈ F.xs, F.cs.names.lookup y = some .local
  nd : (F.xs ++ F.rest).Nodup
  cell : ∀ y ∈ F.cs.names, y.2 ≠ .cell
  co : F.cs.isCoroutine = false
  gen : F.cs.isGenerator = false
  kind : F.cs.kind = .function
section
variable {prog : Program} {K : Params → Frag} {d : Nat}
/-- a call: the body in a frame of its own -/
theorem callX_at {f : Fx} {c : Cx} {σ σ' : S} {as : List Addr} {os : List Obj} {m : Str → Option Value} {s : Shared} {args : List AV} {vs : List Value} {Q : Value → Shared → Prop} {E : Value → Shared → Prop} {name qual : Str} {params : Arguments} {body : List Stmt} {cs : Scope} {xs rest : List Str} {bs : List (Str × Addr)} {cl : List (Str × Nat)} {dV kV doc pm cdv ct : Value} {an : Option Addr} {fa : Addr} {fo : Obj} {o : Out} {argsP : Args}
    (hf : f.fn = true) (ok : Ok K f (d + 1) c) (R : At c as os m σ s) (rvs : RVs as args vs) (ho : s.heap.get? fa = some fo) (hd : fo.data = .func (fnX name qual params body cs bs dV kV doc pm an cdv ct)) (hcd : s.heap.CodeRec cdv qual) (hbind : BindsTo s (fnX name qual params body cs bs dV kV doc pm an cdv ct) argsP (xs.zip vs))
    (hloc : ∀ y ∈ xs, cs.names.lookup y = some .local) (hnd : (xs ++ rest).Nodup) (hcell : ∀ y ∈ cs.names, y.2 ≠ .cell) (hco : cs.isCoroutine = false) (hgen : cs.isGenerator = false) (hk : cs.kind = .function) (hlen : args.length = xs.length)
    (rc : ∀ (x : Str) (i : Nat), (x, i) ∈ cl → ∃ a, bs.lookup x = some a ∧ as[i]? = some a) (hb : EvB prog K ⟨cs, true⟩ d body ⟨σ.objs, locs0 xs args rest, cl⟩ o σ')
    (hq : ∀ bs os' m' v s', RV (as ++ bs) (retO o) v → At c (as ++ bs) os' m' { σ with objs := σ'.objs } s' → Q v s') : codeAny (model prog c.w) c.A (.call (.ref fa) argsP) (fun r s' => match r with | .ok (.ret v) => Q v s' | .ok _ => False | .error e => E e s') s := by
  obtain ⟨hcomp, hcL, hcf, ⟨A₀, base, B⟩, hfr⟩ := ok.fn hf
  obtain ⟨p, loose, mean, mg, mb, T⟩ := ok.top
  have lv : vs.length = xs.length := rvs.length.trans hlen
  refine callX_plain (cl := bs) (binds := xs.zip vs) B R.fr R.news T.nolimit hfr hcf ok.kind' ho hd hcd (Nat.lt_of_le_of_lt (Nat.le_add_right _ _) ok.depth) hbind (fun y hy => hloc y.1 (List.of_mem_zip hy).1) (fun g L' h₁ FG F' N' B' st lt => ?_) hcell hco hgen hk
  have ok' : Ok K ⟨cs, true⟩ d ⟨c.w, c.A.deeper (envX qual cs L' fa cdv bs), g, L', envX qual cs L' fa cdv bs, c.rest, none, c.env :: c.outer, c.gens, c.os⟩ := {
    scope := rfl
    globals := rfl
    builtins := rfl
    kin := ok.kin.keeps st
    top := ⟨p, loose, mean, mg, mb, T.keeps st⟩
    kind := hk
    depth := by have := ok.depth; show c.A.depth + 1 + d < _; omega
    units := by have := ok.units; show c.A.units + 3 + 8 * d + 8 < _; omega
    handled := ok.handled
    fn := fun _ => ⟨rfl, rfl, rfl, ⟨_, _, B'⟩, by show c.A.frames.map _ = _; rw [hfr]; rfl⟩
    cmp := fun h => nomatch h }
  have R' : At ⟨c.w, c.A.deeper (envX qual cs L' fa cdv bs), g, L', envX qual cs L' fa cdv bs, c.rest, none, c.env :: c.outer, c.gens, c.os⟩ as os (fun y => (xs.zip vs).reverse.lookup y) ⟨σ.objs, locs0 xs args rest, cl⟩ { s with heap := h₁, toks := s.toks + (xs.zip vs).length } := {
    gens := R.gens, os_ := R.os_, fr := F', news := N', len := R.len, len' := R.len', nodup := R.nodup
    objs := R.objs
    locs := locs0_at rvs lv (List.nodup_append.mp hnd).1
    keys := by rw [locs0_keys hlen]; exact hnd
    cells := rc
    comp := fun _ h => (nomatch h) }
  refine hb _ ok' as os _ _ _ _ R' fun bs os' m' v s' rv R₂ => ?_
  refine leaveK_ R₂.fr R₂.news fun kF kN => ?_
  refine hq bs os' m _ s' (retO_of rv) ?_
  exact { gens := R₂.gens, os_ := R₂.os_, fr := kF, news := kN, len := R₂.len, len' := R₂.len', nodup := R₂.nodup, objs := R₂.objs,
          locs := fun y av h => let ⟨u, h1, h2⟩ := R.locs y av h; ⟨u, h1, h2.up⟩, keys := R.keys, cells := fun y i h => let ⟨a, h1, h2⟩ := R.cells y i h; ⟨a, h1, getElem?_app h2⟩, comp := R.comp }
theorem callA_of {F : Fn} {mk : List Value → Args} {args : List AV} {objs objs' : List AO} {o : Out} {σ' : S} {x : AV} (H : FnA K F mk)
    (hlen : args.length = F.xs.length) (hb : EvB prog K ⟨F.cs, true⟩ d F.body ⟨objs, locs0 F.xs args F.rest, []⟩ o σ') (ho : retO o = x) (hob : σ'.objs = objs') : CallA prog K mk d F.a args objs x objs' := by
  intro f c σ hf ok hσ as os m s vs Q E R rvs hq
  subst hσ ho hob
  have X := ok.kin.keeps R.fr.keep
  exact callX_at (dV := F.dV) (kV := F.kV) (doc := F.doc) (pm := F.pm) (an := F.an) (ct := F.ct) (cl := []) hf ok R rvs (X _ _ (H.at_ _)) rfl (codeRec_of X (H.code _)) (H.bind c.w.params vs s (rvs.length.trans hlen) X) H.loc H.nd H.cell H.co H.gen H.kind hlen (fun _ _ h => nomatch h) hb hq
theorem callT_of {F : Fn} {args : List AV} {objs objs' : List AO} {o : Out} {σ' : S} {x : AV} (H : FnOk K F)
    (hlen : args.length = F.xs.length) (hb : EvB prog K ⟨F.cs, true⟩ d F.body ⟨objs, locs0 F.xs args F.rest, []⟩ o σ') (ho : retO o = x) (hob : σ'.objs = objs') : CallT prog K d F.a args objs x objs' :=
  callA_of (mk := fun vs => ⟨vs, []⟩) ⟨H.at_, H.code, fun P vs s hl _ => BindsTo.of_eq (H.bind vs hl), H.loc, H.nd, H.cell, H.co, H.gen, H.kind⟩ hlen hb ho hob
end
section
variable {prog : Program} {K : Params → Frag} {f : Fx} {d : Nat} {σ σ₁ σ₂ σ₃ : S}
noncomputable def notStar : Expr → Bool
  | .Starred .. => false
  | _ => true
theorem starEach_plain {e : Expr} {rest : List Expr} {env : Env} (h : notStar e = true) : starEach (e :: rest) env = (false, eval e env) :: starEach rest env := by
  cases e <;> first | rfl | exact nb_ h
theorem starEach_any {es : List Expr} {env : Env} {pos : Pos} (h : ∀ e ∈ es, notStar e = true) : (backTo pos (starEach es env)).any (·.1) = false := by
  induction es with
  | nil => rfl
  | cons e es ih =>
    rw [starEach_plain (h e (.head _))]
    exact ih fun e' he => h e' (.tail _ he)
theorem evalArgs_empty {M : Model} {A : Around} {E : Value → Shared → Prop} {s : Shared} {g : Value} {Q : Args → Shared → Prop} (h : wpAny M A (spliced []) (fun vs s' => Q ⟨vs, []⟩ s') E s) : wpAny M A (evalArgs g true [] []) Q E s := by
  unfold evalArgs
  show wpAny M A (spliced [] >>= _) Q E s
  refine wpAny_bind (wpAny_mono h (fun vs s' h' => ?_) fun _ _ x => x)
  refine wpAny_holding ?_
  exact wpAny_bind (wpAny_pure (wpAny_bind (wpAny_pure (wpAny_pure h'))))
theorem EvA.nil : EvA prog K f d [] σ [] σ := by
  intro c pos ok as os m s Q E R hq
  exact Calls.spliced_nil (hq [] os m [] s .nil (by rw [app_nil]; exact R))
theorem EvA.cons {e : Expr} {es : List Expr} {x : AV} {xs : List AV} (hn : notStar e = true) (h : EvE prog K f d e σ x σ₁) (h2 : EvA prog K f d es σ₁ xs σ₂) : EvA prog K f d (e :: es) σ (x :: xs) σ₂ := by
  intro c pos ok as os m s Q E R hq
  rw [starEach_plain hn]
  refine Calls.spliced_cons (h c ok as os m s _ E R fun bs os₁ m₁ v s₁ rv R₁ => ?_)
  refine h2 c pos ok _ os₁ m₁ s₁ _ E R₁ fun bs₂ os₂ m₂ vs s₂ rvs R₂ => ?_
  rw [List.append_assoc] at rvs R₂
  exact hq _ _ _ _ _ (.cons (by rw [← List.append_assoc]; exact rv.up) rvs) R₂
/-- the arguments, and then the call of what K holds -/
theorem callWith_at {c : Cx} {es : List Expr} {xs : List AV} {v : Value} {first : List Value} {pos : Pos} {as : List Addr} {os : List Obj} {m : Str → Option Value} {s : Shared} {Q : Value → Shared → Prop} {E : Value → Shared → Prop} (ok : Ok K f d c) (R : At c as os m σ s) (hs : ∀ e ∈ es, notStar e = true)
    (ha : EvA prog K f d es σ xs σ₁) {P : Heap → Prop} (hk : ∀ h, P h → ∃ k, (k = Keeper.frame ∨ k = Keeper.machine ∨ k = Keeper.boundFrame) ∧ Looks (model prog c.w) h (keeperOf v) k)
    (h : ∀ bs os' m' vs s', RVs (as ++ bs) xs vs → At c (as ++ bs) os' m' σ₁ s' → P s'.heap ∧ wpAny (model prog c.w) c.A (call v (first ++ vs)) Q E s') :
    wpAny (model prog c.w) c.A (callWith pos v first (backTo pos (starEach es c.env)) []) Q E s := by
  refine callWith_of (P := P) (by rw [starEach_any hs]; rfl) hk ?_
  have key := ha c pos ok as os m s (fun vs s' => P s'.heap ∧ wpAny (model prog c.w) c.A (call v (first ++ vs)) Q E s') E R h
  cases es with
  | nil => exact evalArgs_empty key
  | cons e es =>
    rw [starEach_plain (hs e (.head _))] at key ⊢
    exact evalArgs_plain key
/-- a call of a def of K -/
theorem EvE.callFn {fe : Expr} {es : List Expr} {pos : Pos} {fa : Addr} {xs : List AV} {x : AV} {objs' : List AO} (hf : f.fn = true) (h1 : EvE prog K f (d + 1) fe σ (.val (.ref fa)) σ₁) (hs : ∀ e ∈ es, notStar e = true)
    (hfe : ∀ env : Env, eval (.Call fe es [] pos) env = (do callWith pos (← eval fe env) [] (backTo pos (starEach es env)) (backToKw pos (keywordEach [] env))))
    (ha : EvA prog K f (d + 1) es σ₁ xs σ₂) (hk : ∀ P, keepIn (K P) (.ref fa) = true) (hc : CallT prog K d fa xs σ₂.objs x objs') :
    EvE prog K f (d + 1) (.Call fe es [] pos) σ x { σ₂ with objs := objs' } := by
  intro c ok as os m s Q E R hq
  refine Call_ (h1 c ok as os m s _ E R fun bs os₁ m₁ v s₁ rv R₁ => ?_) (hfe _)
  obtain rfl : v = .ref fa := rv
  refine callWith_at ok R₁ hs ha (P := (K c.w.params).In) (fun h X => keeps_K (hk _) h X) fun bs₂ os₂ m₂ vs s₂ rvs R₂ => ⟨ok.kin.keeps R₂.fr.keep, ?_⟩
  refine wpAny_call (hc f c σ₂ hf ok rfl _ os₂ m₂ s₂ vs Q E R₂ rvs fun bs₃ os₃ m₃ v s₃ rv R₃ => ?_)
  rw [List.append_assoc, List.append_assoc] at rv R₃
  exact hq _ _ _ _ _ rv R₃
/-- a call of a method of an instance -/
theorem EvE.callMeth {o : Expr} {name : Str} {apos : Pos} {es : List Expr} {pos : Pos} {fa : Addr} {i j : Nat} {C : Addr} {at_ : List (Str × AV)} {xs : List AV} {x : AV} {objs' : List AO} (hf : f.fn = true) (h1 : EvE prog K f (d + 1) o σ (.obj i) σ₁) (hs : ∀ e ∈ es, notStar e = true)
    (pl : Env → Sem Bool) (hfe : ∀ env : Env, eval (.Call (.Attribute o name apos) es [] pos) env = (do
      let ov ← eval o env
      standAt apos.atName
      let (f, first) ← holding [ov] (getMethod ov name (pl env))
      callWith pos f first (backTo pos (starEach es env)) []))
    (hi : σ₁.objs[i]? = some (.inst C j)) (hj : σ₁.objs[j]? = some (.attrs at_)) (hn : look name at_ = none) (hm : ∀ P, methName (K P) C name fa = true)
    (ha : EvA prog K f (d + 1) es σ₁ xs σ₂) (hk : ∀ P, keepIn (K P) (.ref fa) = true) (hc : CallT prog K d fa (.obj i :: xs) σ₂.objs x objs') :
    EvE prog K f (d + 1) (.Call (.Attribute o name apos) es [] pos) σ x { σ₂ with objs := objs' } := by
  intro c ok as os m s Q E R hq
  refine MethodCall_ (pl := pl c.env) (h1 c ok as os m s _ E R fun bs os₁ m₁ v s₁ rv R₁ => ?_) (hfe _)
  obtain ⟨ax, dx, l, nn, g1, g2, _, I, r, _⟩ := R₁.inst hi hj
  obtain ⟨a, g1', rfl⟩ := rv
  rw [g1] at g1'; cases g1'
  have hm' := hm c.w.params
  unfold methName at hm'
  simp only [Bool.and_eq_true, beq_iff_eq, Bool.not_eq_true'] at hm'
  obtain ⟨⟨⟨⟨⟨⟨⟨c1, c2⟩, c3⟩, c4⟩, c5⟩, c6⟩, c7⟩, c8⟩ := hm'
  refine method_inst R₁.fr ok.kin I c1 c3 c4 (getL_none r hn) ?_
  refine callWith_at ok R₁ hs ha (P := (K c.w.params).In) (fun h X => keeps_K (hk _) h X) fun bs₂ os₂ m₂ vs s₂ rvs R₂ => ⟨ok.kin.keeps R₂.fr.keep, ?_⟩
  refine wpAny_call (hc f c σ₂ hf ok rfl _ os₂ m₂ s₂ (.ref ax :: vs) Q E R₂ (.cons ⟨ax, getElem?_app g1, rfl⟩ rvs) fun bs₃ os₃ m₃ v s₃ rv R₃ => ?_)
  rw [List.append_assoc, List.append_assoc] at rv R₃
  exact hq _ _ _ _ _ rv R₃
/-- a bound method made -/
theorem EvE.bound {n : Str} {np pos : Pos} {x : Str} {i j : Nat} {C fa : Addr} {es : List (Str × AV)} (h : EvE prog K f d (.Name n np) σ (.obj i) σ₁) (hi : σ₁.objs[i]? = some (.inst C j)) (hj : σ₁.objs[j]? = some (.attrs es))
    (hm : ∀ P, methName (K P) C x fa = true) (hg : look x es = none) : EvE prog K f d (.Attribute (.Name n np) x pos) σ (.obj σ₁.objs.length) { σ₁ with objs := σ₁.objs ++ [.meth fa (.obj i)] } := by
  intro c ok as os m s Q E R hq
  refine Attribute_name (h c ok as os m s _ E R fun bs os₁ m₁ v s₁ rv R₁ => ?_)
  obtain ⟨ax, dx, l, nn, h1, h2, _, I, r, _⟩ := R₁.inst hi hj
  obtain ⟨a', h1', rfl⟩ := rv
  rw [h1] at h1'; cases h1'
  have hm' := hm c.w.params
  unfold methName at hm'
  simp only [Bool.and_eq_true, beq_iff_eq, Bool.not_eq_true'] at hm'
  obtain ⟨⟨⟨⟨⟨⟨⟨c1, c2⟩, c3⟩, c4⟩, c5⟩, c6⟩, c7⟩, c8⟩ := hm'
  refine kbm_bound R₁.fr ok.kin R₁.news I c1 c2 c3 c4 c6 c7 c8 (getL_none r hg) fun q h' F' N' l1 => ?_
  have nf := not_mem_of_lt R₁.len l1
  have R₂ := R₁.new (s' := { s₁ with heap := h', toks := s₁.toks + 1 }) (a := q) (ao := .meth fa (.obj i)) rfl rfl F' N' nf ⟨.ref ax, ⟨ax, getElem?_app h1, rfl⟩, rfl⟩
  rw [List.append_assoc] at R₂
  refine hq _ _ _ _ _ ⟨q, ?_, rfl⟩ R₂
  rw [← List.append_assoc, R₁.len', List.getElem?_append_right (Nat.le_refl _), Nat.sub_self]
  rfl
/-- a call of a bound method -/
theorem EvE.callBound {fe : Expr} {es : List Expr} {pos : Pos} {fa : Addr} {k : Nat} {self : AV} {xs : List AV} {x : AV} {objs' : List AO} (hf : f.fn = true) (h1 : EvE prog K f (d + 1) fe σ (.obj k) σ₁) (hs : ∀ e ∈ es, notStar e = true)
    (hfe : ∀ env : Env, eval (.Call fe es [] pos) env = (do callWith pos (← eval fe env) [] (backTo pos (starEach es env)) (backToKw pos (keywordEach [] env))))
    (ha : EvA prog K f (d + 1) es σ₁ xs σ₂) (ho2 : σ₂.objs[k]? = some (.meth fa self)) (hk : ∀ P, fnIn (K P) fa = true) (hc : CallT prog K d fa (self :: xs) σ₂.objs x objs') :
    EvE prog K f (d + 1) (.Call fe es [] pos) σ x { σ₂ with objs := objs' } := by
  intro c ok as os m s Q E R hq
  refine Call_ (h1 c ok as os m s _ E R fun bs os₁ m₁ v s₁ rv R₁ => ?_) (hfe _)
  obtain ⟨q, hq1, rfl⟩ := rv
  refine callWith_at ok R₁ hs ha (P := fun h => ∃ u, MethP (K c.w.params) q fa u h) (fun h ⟨u, X⟩ => keeps_M (hk _) h X) fun bs₂ os₂ m₂ vs s₂ rvs R₂ => ?_
  obtain ⟨a, o, g1, g2, g3, g4, u, ru, rfl⟩ := R₂.obj ho2
  rw [getElem?_app hq1] at g1
  cases g1
  refine ⟨⟨u, g4, ok.kin.keeps R₂.fr.keep⟩, wpAny_call (method_call g4 ?_)⟩
  refine hc f c σ₂ hf ok rfl _ os₂ m₂ s₂ (u :: vs) Q E R₂ (.cons ru rvs) fun bs₃ os₃ m₃ v s₃ rv R₃ => ?_
  rw [List.append_assoc, List.append_assoc] at rv R₃
  exact hq _ _ _ _ _ rv R₃
end
/-- the int that a value is said to be -/
noncomputable def AV.i? : AV → Option Int
  | .cint i => some i
  | .int i => some i
  | _ => none
noncomputable def AV.known : AV → Bool
  | .cint _ => true
  | _ => false
noncomputable def mkI : Bool → Int → AV
  | true, i => .cint i
  | false, i => .int i
theorem RV.int_of {as : List Addr} {x : AV} {v : Value} {i : Int} (h : x.i? = some i) (r : RV as x v) : ∃ t, v = .int i t := by
  cases x <;> first | (cases h; exact r) | cases h
theorem RV.mkI {as : List Addr} {b : Bool} {i : Int} {t : Tok} : RV as (mkI b i) (.int i t) := by cases b <;> exact ⟨t, rfl⟩
theorem RV.any_of {as : List Addr} {x : AV} {v : Value} {i : Int} (h : x.i? = some i) (r : RV as x v) : RV as .any v := by
  obtain ⟨t, rfl⟩ := r.int_of h; exact ⟨i, t, rfl⟩
noncomputable def opI : Operator → Int → Int → Option (Int × List Prop)
  | .Add, a, b => some (a + b, [])
  | .Sub, a, b => some (a - b, [])
  | .Mult, a, b => some (a * b, [IntMulOk a b])
  | .BitAnd, a, b => some (Builtin.bitAnd a b, [])
  | .BitOr, a, b => some (Builtin.bitOr a b, [])
  | .BitXor, a, b => some (Builtin.bitXor a b, [])
  | .Mod, a, b => some (a.fmod b, [b ≠ 0])
  | .FloorDiv, a, b => some (a.fdiv b, [b ≠ 0, Builtin.divisionGoesByPylong a b = false])
  | .LShift, a, b => some (a * 2 ^ b.toNat, [0 ≤ b, b ≤ 1000000, a.natAbs < 2 ^ 64])
  | .RShift, a, b => some (a.fdiv (2 ^ b.toNat), [0 ≤ b])
  | _, _, _ => none
theorem pair_inj {α β : Type} {a x : α} {b y : β} (h : some (a, b) = some (x, y)) : a = x ∧ b = y := by cases h; exact ⟨rfl, rfl⟩
theorem opI_bin {prog : Program} {w : World} {A : Around} {E : Value → Shared → Prop} {s : Shared} {op : Operator} {a b z : Int} {t u : Tok} {gs : List Prop} {Q : Value → Shared → Prop} (h : opI op a b = some (z, gs)) (hg : ∀ p ∈ gs, p) (q : ∀ t k, Q (.int z t) { s with toks := k }) :
    wpAny (model prog w) A (binaryOp op (.int a t) (.int b u)) Q E s := by
  cases op <;> first | exact no_ h | (cases h; done) | skip
  all_goals (obtain ⟨rfl, rfl⟩ := pair_inj h)
  · exact add_int (q _ _)
  · exact PyProof.Rows.sub_int (q _ _)
  · exact PyProof.Rows.mul_int (q _ _) (hg _ (.head _))
  · exact mod_int (hg _ (.head _)) (q _ _)
  · exact lshift_int_small (hg _ (.head _)) (hg _ (.tail _ (.head _))) (hg _ (.tail _ (.tail _ (.head _)))) (q _ _)
  · exact rshift_int (hg _ (.head _)) (q _ _)
  · exact or_int (q _ _)
  · exact xor_int (q _ _)
  · exact and_int (q _ _)
  · exact floordiv_int (hg _ (.head _)) (q _ _) (.inl (hg _ (.tail _ (.head _))))
theorem opI_inplace {prog : Program} {w : World} {A : Around} {E : Value → Shared → Prop} {s : Shared} {op : Operator} {a b z : Int} {t u : Tok} {gs : List Prop} {Q : Value → Shared → Prop} (h : opI op a b = some (z, gs)) (hg : ∀ p ∈ gs, p) (q : ∀ t k, Q (.int z t) { s with toks := k }) :
    wpAny (model prog w) A (inplaceOp op (.int a t) (.int b u)) Q E s := by
  cases op <;> first | exact no_ h | (cases h; done) | skip
  all_goals (obtain ⟨rfl, rfl⟩ := pair_inj h)
  · exact PyProof.Rows.iadd_int (q _ _)
  · exact PyProof.Rows.isub_int (q _ _)
  · exact PyProof.Rows.imul_int (q _ _) (hg _ (.head _))
  · exact imod_int (hg _ (.head _)) (q _ _)
  · exact ilshift_int_small (hg _ (.head _)) (hg _ (.tail _ (.head _))) (hg _ (.tail _ (.tail _ (.head _)))) (q _ _)
  · exact irshift_int (hg _ (.head _)) (q _ _)
  · exact ior_int (q _ _)
  · exact ixor_int (q _ _)
  · exact iand_int (q _ _)
  · exact ifloordiv_int (hg _ (.head _)) (q _ _) (.inl (hg _ (.tail _ (.head _))))
noncomputable def isAdd : Operator → Bool
  | .Add => true
  | _ => false
/-- an operation on values -/
noncomputable def opV (op : Operator) (x y : AV) : Option (AV × List Prop) := match x.i? with
  | some a => match y.i? with
    | some b => match opI op a b with
      | some (z, gs) => some (mkI (x.known && y.known) z, gs)
      | none => none
    | none => match y, isAdd op with
      | .any, true => some (.any, [])
      | _, _ => none
  | none => match x, isAdd op with
    | .any, true => match y.i? with
      | some _ => some (.any, [])
      | none => match y with
        | .any => some (.any, [])
        | _ => none
    | _, _ => none
theorem opV_cases {op : Operator} {x y z : AV} {gs : List Prop} (h : opV op x y = some (z, gs)) : (∃ a b c k, x.i? = some a ∧ y.i? = some b ∧ opI op a b = some (c, gs) ∧ z = mkI k c) ∨
    (op = .Add ∧ z = .any ∧ (∀ as v, RV as x v → RV as .any v) ∧ ∀ as v, RV as y v → RV as .any v) := by
  unfold opV at h
  cases e : x.i? with
  | some a =>
    rw [e] at h
    dsimp only at h
    cases e2 : y.i? with
    | some b =>
      rw [e2] at h
      dsimp only at h
      cases e3 : opI op a b with
      | none => rw [e3] at h; first | exact no_ h | cases h
      | some p => obtain ⟨c, g⟩ := p; rw [e3] at h; cases h; exact .inl ⟨a, b, c, _, rfl, rfl, e3, rfl⟩
    | none =>
      rw [e2] at h
      dsimp only at h
      split at h
      · first | exact no_ h | cases h
        rename_i h'
        have ho : op = .Add := by cases op <;> first | rfl | cases h'
        refine .inr ⟨ho, rfl, fun as v r => r.any_of e, fun as v r => r⟩
      · first | exact no_ h | cases h
  | none =>
    rw [e] at h
    dsimp only at h
    split at h
    · rename_i h'
      have ho : op = .Add := by cases op <;> first | rfl | cases h'
      split at h
      · rename_i e2
        cases h
        exact .inr ⟨ho, rfl, fun as v r => r, fun as v r => r.any_of e2⟩
      · split at h
        · first | exact no_ h | cases h
          exact .inr ⟨ho, rfl, fun as v r => r, fun as v r => r⟩
        · first | exact no_ h | cases h
    · first | exact no_ h | cases h
theorem opV_bin {prog : Program} {op : Operator} {x y z : AV} {gs : List Prop} (h : opV op x y = some (z, gs)) (hg : ∀ p ∈ gs, p) (w : World) (A : Around) (as : List Addr) (a b : Value) (s : Shared) (Q E : Value → Shared → Prop) (ra : RV as x a) (rb : RV as y b) (q : ∀ v t, RV as z v → Q v { s with toks := t }) :
    wpAny (model prog w) A (binaryOp op a b) Q E s := by
  rcases opV_cases h with ⟨i, j, k, kn, e1, e2, e3, rfl⟩ | ⟨rfl, rfl, e1, e2⟩
  · obtain ⟨t, rfl⟩ := ra.int_of e1
    obtain ⟨u, rfl⟩ := rb.int_of e2
    exact opI_bin e3 hg fun t k => q _ _ .mkI
  · obtain ⟨i, t, rfl⟩ := e1 _ _ ra
    obtain ⟨j, u, rfl⟩ := e2 _ _ rb
    exact add_int (q _ _ ⟨_, _, rfl⟩)
theorem opV_inplace {prog : Program} {op : Operator} {x y z : AV} {gs : List Prop} (h : opV op x y = some (z, gs)) (hg : ∀ p ∈ gs, p) (w : World) (A : Around) (as : List Addr) (a b : Value) (s : Shared) (Q E : Value → Shared → Prop) (ra : RV as x a) (rb : RV as y b) (q : ∀ v t, RV as z v → Q v { s with toks := t }) :
    wpAny (model prog w) A (inplaceOp op a b) Q E s := by
  rcases opV_cases h with ⟨i, j, k, kn, e1, e2, e3, rfl⟩ | ⟨rfl, rfl, e1, e2⟩
  · obtain ⟨t, rfl⟩ := ra.int_of e1
    obtain ⟨u, rfl⟩ := rb.int_of e2
    exact opI_inplace e3 hg fun t k => q _ _ .mkI
  · obtain ⟨i, t, rfl⟩ := e1 _ _ ra
    obtain ⟨j, u, rfl⟩ := e2 _ _ rb
    exact PyProof.Rows.iadd_int (q _ _ ⟨_, _, rfl⟩)
noncomputable def mkB : Bool → Bool → AV
  | true, b => .cb b
  | false, b => .bool b
theorem RV.mkB {as : List Addr} {k b : Bool} : RV as (mkB k b) (.bool b) := by cases k <;> rfl
/-- comparisons of ints, of strs; with None -/
noncomputable def cmpI : CmpOp → Int → Int → Option Bool
  | .Eq, a, b => some (a == b)
  | .NotEq, a, b => some (a != b)
  | .Lt, a, b => some (decide (a < b))
  | .Gt, a, b => some (decide (b < a))
  | .LtE, a, b => some (decide (a ≤ b))
  | .GtE, a, b => some (decide (b ≤ a))
  | _, _, _ => none
noncomputable def cmpS : CmpOp → Str → Str → Option Bool
  | .Eq, a, b => some (Fast.sEq a b)
  | .NotEq, a, b => some (!Fast.sEq a b)
  | _, _, _ => none
noncomputable def isNoneV : AV → Option Bool
  | .cint _ => some false
  | .int _ => some false
  | .any => some false
  | .str _ => some false
  | .cb _ => some false
  | .bool _ => some false
  | .obj _ => some false
  | .val .none => some true
  | .val (.ref _) => some false
  | .val (.type _) => some false
  | _ => none
noncomputable def isOp : CmpOp → Option Bool
  | .Is => some true
  | .IsNot => some false
  | _ => none
noncomputable def AV.none? : AV → Bool
  | .val .none => true
  | _ => false
noncomputable def AV.s? : AV → Option Str
  | .str x => some x
  | _ => none
noncomputable def cmpV (op : CmpOp) (x y : AV) : Option AV := match isOp op with
  | some k => match y.none? with
    | true => match isNoneV x with
      | some b => some (.cb (match k with | true => b | false => !b))
      | none => none
    | false => none
  | none => match x.i? with
    | some a => match y.i? with
      | some b => match cmpI op a b with
        | some r => some (mkB (x.known && y.known) r)
        | none => none
      | none => none
    | none => match x.s? with
      | some a => match y.s? with
        | some b => match cmpS op a b with
          | some r => some (.cb r)
          | none => none
        | none => none
      | none => none
theorem isNone_of {as : List Addr} {x : AV} {v : Value} {b : Bool} (h : isNoneV x = some b) (r : RV as x v) : plainIs v .none = true ∧ (v == .none) = b := by
  cases x with
  | cint i => obtain ⟨t, rfl⟩ := r; cases h; exact ⟨rfl, rfl⟩
  | int i => obtain ⟨t, rfl⟩ := r; cases h; exact ⟨rfl, rfl⟩
  | any => obtain ⟨i, t, rfl⟩ := r; cases h; exact ⟨rfl, rfl⟩
  | str i => obtain ⟨t, rfl⟩ := r; cases h; exact ⟨rfl, rfl⟩
  | cb i => obtain rfl : v = .bool i := r; cases h; exact ⟨rfl, rfl⟩
  | bool i => obtain rfl : v = .bool i := r; cases h; exact ⟨rfl, rfl⟩
  | obj i => obtain ⟨a, _, rfl⟩ := r; cases h; exact ⟨rfl, rfl⟩
  | val u =>
    obtain rfl : v = u := r
    cases v <;> first | exact no_ h | (cases h; done) | (cases h; exact ⟨rfl, rfl⟩)
  | blt b => cases h
  | top => first | exact no_ h | cases h
theorem sEq_beq {a b : Str} : (a == b) = Fast.sEq a b := by
  cases e : Fast.sEq a b with
  | true => have := Fast.sEq_iff.mp e; subst this; simp
  | false => exact sEq_false e
theorem cmpI_of {prog : Program} {op : CmpOp} {a b : Int} {r : Bool} (h : cmpI op a b = some r) {w : World} {A : Around} {t u : Tok} {s : Shared} {Q E : Value → Shared → Prop} (q : Q (.bool r) s) : wpAny (model prog w) A (compareOp op (.int a t) (.int b u)) Q E s := by
  cases op <;> first | exact no_ h | (cases h; done) | skip
  all_goals (unfold cmpI at h; cases h)
  · exact eq_int q
  · exact ne_int q
  · exact lt_int q
  · exact le_int q
  · exact gt_int q
  · exact ge_int q
theorem cmpS_of {prog : Program} {op : CmpOp} {a b : Str} {r : Bool} (h : cmpS op a b = some r) {w : World} {A : Around} {t u : Tok} {s : Shared} {Q E : Value → Shared → Prop} (q : Q (.bool r) s) : wpAny (model prog w) A (compareOp op (.str a t) (.str b u)) Q E s := by
  cases op <;> first | exact no_ h | (cases h; done) | skip
  all_goals (unfold cmpS at h; cases h)
  · exact eq_str (by rw [sEq_beq]; exact q)
  · refine ne_str ?_
    show Q (Value.bool (!(_ == _))) s
    rw [sEq_beq]; exact q
theorem none_of {y : AV} (h : y.none? = true) : y = .val .none := by
  cases y with
  | val u =>
    cases u with
    | none => rfl
    | _ => exact nb_ h
  | _ => exact nb_ h
theorem isOp_of {op : CmpOp} {k : Bool} (h : isOp op = some k) : (op = .Is ∧ k = true) ∨ (op = .IsNot ∧ k = false) := by
  cases op with
  | Is => exact .inl ⟨rfl, (Option.some.inj h).symm⟩
  | IsNot => exact .inr ⟨rfl, (Option.some.inj h).symm⟩
  | _ => exact no_ h
theorem cmpV_of {prog : Program} {op : CmpOp} {x y z : AV} (h : cmpV op x y = some z) (w : World) (A : Around) (as : List Addr) (a b : Value) (s : Shared) (Q E : Value → Shared → Prop) (ra : RV as x a) (rb : RV as y b) (q : ∀ v, RV as z v → Q v s) :
    wpAny (model prog w) A (compareOp op a b) Q E s := by
  unfold cmpV at h
  cases e0 : isOp op with
  | some k =>
    rw [e0] at h
    dsimp only at h
    cases e1 : y.none? with
    | false => rw [e1] at h; first | exact no_ h | cases h
    | true =>
      rw [e1] at h
      dsimp only at h
      obtain rfl := none_of e1
      obtain rfl : b = .none := rb
      cases e2 : isNoneV x with
      | none => rw [e2] at h; first | exact no_ h | cases h
      | some b' =>
        rw [e2] at h
        cases h
        obtain ⟨p1, p2⟩ := isNone_of e2 ra
        rcases isOp_of e0 with ⟨rfl, rfl⟩ | ⟨rfl, rfl⟩
        · exact wpAny_is_plain p1 (q _ (by rw [p2]; rfl))
        · exact wpAny_isNot_plain p1 (q _ (by rw [p2]; rfl))
  | none =>
    rw [e0] at h
    dsimp only at h
    cases e : x.i? with
    | some i =>
      rw [e] at h
      dsimp only at h
      cases e2 : y.i? with
      | none => rw [e2] at h; first | exact no_ h | cases h
      | some j =>
        rw [e2] at h
        dsimp only at h
        cases e3 : cmpI op i j with
        | none => rw [e3] at h; first | exact no_ h | cases h
        | some r =>
          rw [e3] at h
          cases h
          obtain ⟨t, rfl⟩ := ra.int_of e
          obtain ⟨u, rfl⟩ := rb.int_of e2
          exact cmpI_of e3 (q _ .mkB)
    | none =>
      rw [e] at h
      dsimp only at h
      have strOf : ∀ {x : AV} {v : Value} {z : Str}, x.s? = some z → RV as x v → ∃ t, v = .str z t := fun {x} {v} {z} h r => by
        cases x <;> first | exact no_ h | (cases h; done) | (cases h; exact r)
      cases e2 : x.s? with
      | none => rw [e2] at h; first | exact no_ h | cases h
      | some i =>
        rw [e2] at h
        dsimp only at h
        cases e3 : y.s? with
        | none => rw [e3] at h; first | exact no_ h | cases h
        | some j =>
          rw [e3] at h
          dsimp only at h
          cases e4 : cmpS op i j with
          | none => rw [e4] at h; first | exact no_ h | cases h
          | some r =>
            rw [e4] at h
            cases h
            obtain ⟨t, rfl⟩ := strOf e2 ra
            obtain ⟨u, rfl⟩ := strOf e3 rb
            exact cmpS_of e4 (q _ rfl)
/-- the truth of a value; under a guard where it is not known -/
noncomputable def truthV : AV → Option (Bool × Bool)
  | .cint i => some (i != 0, true)
  | .int i => some (i != 0, false)
  | .cb b => some (b, true)
  | .bool b => some (b, false)
  | .val .none => some (false, true)
  | _ => none
theorem truth_of {prog : Program} {w : World} {A : Around} {as : List Addr} {x : AV} {v : Value} {b k : Bool} {s : Shared} {Q : Bool → Shared → Prop} {E : Value → Shared → Prop} (h : truthV x = some (b, k)) (r : RV as x v) (q : Q b s) : wpAny (model prog w) A (truthy v) Q E s := by
  cases x with
  | cint i => obtain ⟨t, rfl⟩ := r; cases h; exact truthy_int q
  | int i => obtain ⟨t, rfl⟩ := r; cases h; exact truthy_int q
  | cb i => obtain rfl : v = .bool i := r; cases h; exact wpAny_pure q
  | bool i => obtain rfl : v = .bool i := r; cases h; exact wpAny_pure q
  | val u =>
    obtain rfl : v = u := r
    cases v <;> first | exact no_ h | (cases h; done) | (cases h; exact truthy_none q)
  | any => first | exact no_ h | cases h
  | str x => cases h
  | obj i => cases h
  | blt b => cases h
  | top => first | exact no_ h | cases h
noncomputable def plainTest : Expr → Bool
  | .Name .. => true
  | .BinOp .. => true
  | .Attribute .. => true
  | .Call .. => true
  | .Subscript .. => true
  | .Constant .. => true
  | _ => false
section
variable {prog : Program} {K : Params → Frag} {f : Fx} {d : Nat} {σ σ₁ σ₂ σ₃ : S}
theorem EvE.bin {op : Operator} {l r : Expr} {pos : Pos} {x y z : AV} {gs : List Prop} (h1 : EvE prog K f d l σ x σ₁) (h2 : EvE prog K f d r σ₁ y σ₂) (h : opV op x y = some (z, gs)) (hg : ∀ p ∈ gs, p) :
    EvE prog K f d (.BinOp l op r pos) σ z σ₂ := by
  intro c ok as os m s Q E R hq
  refine wpAny_BinOp (h1 c ok as os m s _ E R fun bs os₁ m₁ a s₁ ra R₁ => ?_)
  refine h2 c ok _ os₁ m₁ s₁ _ E R₁ fun bs₂ os₂ m₂ b s₂ rb R₂ => ?_
  refine opV_bin h hg c.w c.A (as ++ bs ++ bs₂) a b s₂ Q E ra.up rb fun v t rv => ?_
  rw [List.append_assoc] at rv R₂
  exact hq (bs ++ bs₂) os₂ m₂ v _ rv (R₂.toks t)
theorem EvE.inv {e : Expr} {pos : Pos} {x : AV} {a : Int} (h : EvE prog K f d e σ x σ₁) (hx : x.i? = some a) : EvE prog K f d (.UnaryOp .Invert e pos) σ (mkI x.known (Builtin.bitNot a)) σ₁ := by
  intro c ok as os m s Q E R hq
  refine wpAny_UnaryOp (h c ok as os m s _ E R fun bs os₁ m₁ v s₁ rv R₁ => ?_)
  obtain ⟨t, rfl⟩ := rv.int_of hx
  exact invert_int (hq _ _ _ _ _ .mkI (R₁.toks _))
theorem EvE.neg {e : Expr} {pos : Pos} {x : AV} {a : Int} (h : EvE prog K f d e σ x σ₁) (hx : x.i? = some a) : EvE prog K f d (.UnaryOp .USub e pos) σ (mkI x.known (-a)) σ₁ := by
  intro c ok as os m s Q E R hq
  refine wpAny_UnaryOp (h c ok as os m s _ E R fun bs os₁ m₁ v s₁ rv R₁ => ?_)
  obtain ⟨t, rfl⟩ := rv.int_of hx
  exact PyProof.Rows.neg_int (hq _ _ _ _ _ .mkI (R₁.toks _))
theorem EvE.cmp {op : CmpOp} {l r : Expr} {pos : Pos} {x y z : AV} (h1 : EvE prog K f d l σ x σ₁) (h2 : EvE prog K f d r σ₁ y σ₂) (hm : behindInMarks op r = false) (h : cmpV op x y = some z) :
    EvE prog K f d (.Compare l [op] [r] pos) σ z σ₂ := by
  intro c ok as os m s Q E R hq
  refine wpAny_Compare1 (h1 c ok as os m s _ E R fun bs os₁ m₁ a s₁ ra R₁ => ?_) hm
  refine h2 c ok _ os₁ m₁ s₁ _ E R₁ fun bs₂ os₂ m₂ b s₂ rb R₂ => ?_
  refine cmpV_of h c.w c.A (as ++ bs ++ bs₂) a b s₂ Q E ra.up rb fun v rv => ?_
  rw [List.append_assoc] at rv R₂
  exact hq (bs ++ bs₂) os₂ m₂ v _ rv R₂
theorem EvT.plain {e : Expr} {x : AV} {b k : Bool} (hp : plainTest e = true) (h : EvE prog K f d e σ x σ₁) (ht : truthV x = some (b, k)) : EvT prog K f d e σ b σ₁ := by
  intro c ok as os m s Q E R hq
  have key := h c ok as os m s (fun v s₁ => wpAny (model prog c.w) c.A (truthy v) Q E s₁) E R fun bs os' m' v s' rv R' => truth_of ht rv (hq _ _ _ _ R')
  cases e <;> first | (cases hp; done) | exact isTrue_plain key
theorem EvT.cmp {op : CmpOp} {l r : Expr} {pos : Pos} {x y z : AV} {b k : Bool} (h1 : EvE prog K f d l σ x σ₁) (h2 : EvE prog K f d r σ₁ y σ₂) (hm : behindInMarks op r = false) (h : cmpV op x y = some z) (ht : truthV z = some (b, k)) :
    EvT prog K f d (.Compare l [op] [r] pos) σ b σ₂ := by
  intro c ok as os m s Q E R hq
  refine wpAny_isTrue_Compare1 (h1 c ok as os m s _ E R fun bs os₁ m₁ a s₁ ra R₁ => ?_) hm
  refine h2 c ok _ os₁ m₁ s₁ _ E R₁ fun bs₂ os₂ m₂ v s₂ rb R₂ => ?_
  refine cmpV_of h c.w c.A (as ++ bs ++ bs₂) a v s₂ _ E ra.up rb fun v rv => ?_
  rw [List.append_assoc] at R₂
  exact truth_of ht rv (hq _ _ _ _ R₂)
theorem EvT.not {e : Expr} {pos : Pos} {b : Bool} (h : EvT prog K f d e σ b σ₁) : EvT prog K f d (.UnaryOp .Not e pos) σ (!b) σ₁ := by
  intro c ok as os m s Q E R hq
  exact isTrue_not (h c ok as os m s _ E R fun bs os' m' s' R' => hq _ _ _ _ R')
theorem EvT.and_nil {pos : Pos} : EvT prog K f d (.BoolOp .And [] pos) σ true σ := by
  intro c ok as os m s Q E R hq
  exact isTrue_and_nil (hq [] os m s (by rw [app_nil]; exact R))
theorem EvT.or_nil {pos : Pos} : EvT prog K f d (.BoolOp .Or [] pos) σ false σ := by
  intro c ok as os m s Q E R hq
  exact isTrue_or_nil (hq [] os m s (by rw [app_nil]; exact R))
theorem EvT.and_f {e : Expr} {es : List Expr} {pos : Pos} (h : EvT prog K f d e σ false σ₁) : EvT prog K f d (.BoolOp .And (e :: es) pos) σ false σ₁ := by
  intro c ok as os m s Q E R hq
  exact isTrue_and (h c ok as os m s _ E R fun bs os' m' s' R' => hq _ _ _ _ R')
theorem EvT.and_t {e : Expr} {es : List Expr} {pos : Pos} {b : Bool} (h : EvT prog K f d e σ true σ₁) (h2 : EvT prog K f d (.BoolOp .And es pos) σ₁ b σ₂) : EvT prog K f d (.BoolOp .And (e :: es) pos) σ b σ₂ := by
  intro c ok as os m s Q E R hq
  refine isTrue_and (h c ok as os m s _ E R fun bs os₁ m₁ s₁ R₁ => ?_)
  have key := h2 c ok _ os₁ m₁ s₁ Q E R₁ fun bs₂ os₂ m₂ s₂ R₂ => by
    rw [List.append_assoc] at R₂
    exact hq _ _ _ _ R₂
  exact key
theorem EvT.or_t {e : Expr} {es : List Expr} {pos : Pos} (h : EvT prog K f d e σ true σ₁) : EvT prog K f d (.BoolOp .Or (e :: es) pos) σ true σ₁ := by
  intro c ok as os m s Q E R hq
  exact isTrue_or (h c ok as os m s _ E R fun bs os' m' s' R' => hq _ _ _ _ R')
theorem EvT.or_f {e : Expr} {es : List Expr} {pos : Pos} {b : Bool} (h : EvT prog K f d e σ false σ₁) (h2 : EvT prog K f d (.BoolOp .Or es pos) σ₁ b σ₂) : EvT prog K f d (.BoolOp .Or (e :: es) pos) σ b σ₂ := by
  intro c ok as os m s Q E R hq
  refine isTrue_or (h c ok as os m s _ E R fun bs os₁ m₁ s₁ R₁ => ?_)
  have key := h2 c ok _ os₁ m₁ s₁ Q E R₁ fun bs₂ os₂ m₂ s₂ R₂ => by
    rw [List.append_assoc] at R₂
    exact hq _ _ _ _ R₂
  exact key
theorem EvS.ite {test : Expr} {body orelse : List Stmt} {pos : Pos} {b : Bool} {o : Out} (h : EvT prog K f d test σ b σ₁) (h2 : EvB prog K f d (match b with | true => body | false => orelse) σ₁ o σ₂) : EvS prog K f d (.If test body orelse pos) σ o σ₂ := by
  intro c ok as os m s Q E R hq
  refine wpAny_If (h c ok as os m s _ E R fun bs os₁ m₁ s₁ R₁ => ?_)
  have key := h2 c ok _ os₁ m₁ s₁ Q E R₁ fun bs₂ os₂ m₂ v s₂ rv R₂ => by
    rw [List.append_assoc] at rv R₂
    exact hq _ _ _ _ _ rv R₂
  cases b <;> exact key
theorem EvE.ite {test body orelse : Expr} {pos : Pos} {b : Bool} {x : AV} (h : EvT prog K f d test σ b σ₁) (h2 : EvE prog K f d (match b with | true => body | false => orelse) σ₁ x σ₂) : EvE prog K f d (.IfExp test body orelse pos) σ x σ₂ := by
  intro c ok as os m s Q E R hq
  refine wpAny_IfExp (h c ok as os m s _ E R fun bs os₁ m₁ s₁ R₁ => ?_)
  have key := h2 c ok _ os₁ m₁ s₁ Q E R₁ fun bs₂ os₂ m₂ v s₂ rv R₂ => by
    rw [List.append_assoc] at rv R₂
    exact hq _ _ _ _ _ rv R₂
  cases b <;> exact key
theorem EvS.expr {e : Expr} {pos : Pos} {x : AV} (h : EvE prog K f d e σ x σ₁) (hs : ∀ env : Env, swapsWith e none pos.line env = pure false) : EvS prog K f d (.Expr e pos) σ .next σ₁ := by
  intro c ok as os m s Q E R hq
  exact wpAny_Expr_any (h c ok as os m s _ E R fun bs os₁ m₁ v s₁ rv R₁ => hq _ _ _ _ _ rfl R₁) (by unfold interactive; rw [ok.kind']; rfl) (hs _)
theorem EvB.nil : EvB prog K f d [] σ .next σ := by
  intro c ok as os m s Q E R hq
  exact wpAny_execs_nil (hq [] os m _ s rfl (by rw [app_nil]; exact R))
theorem EvB.cons {st : Stmt} {rest : List Stmt} {o : Out} (h1 : EvS prog K f d st σ .next σ₁) (h2 : EvB prog K f d rest σ₁ o σ₂) : EvB prog K f d (st :: rest) σ o σ₂ := by
  intro c ok as os m s Q E R hq
  refine wpAny_execs_cons (h1 c ok as os m s _ E R fun bs os₁ m₁ v s₁ rv R₁ => ?_)
  obtain rfl : v = .next := rv
  exact h2 c ok _ os₁ m₁ s₁ Q E R₁ fun bs₂ os₂ m₂ v s₂ rv R₂ => by
    rw [List.append_assoc] at rv R₂
    exact hq _ _ _ _ _ rv R₂
theorem EvB.stop {st : Stmt} {rest : List Stmt} {o : Out} (h1 : EvS prog K f d st σ o σ₁) (hn : o ≠ .next) : EvB prog K f d (st :: rest) σ o σ₁ := by
  intro c ok as os m s Q E R hq
  refine wpAny_execs_cons (h1 c ok as os m s _ E R fun bs os₁ m₁ v s₁ rv R₁ => ?_)
  have := hq bs os₁ m₁ v s₁ rv R₁
  cases o with
  | next => exact absurd rfl hn
  | brk => cases (show v = .brk from rv); exact this
  | cont => cases (show v = .cont from rv); exact this
  | ret x => obtain ⟨u, e, _⟩ := (show ∃ u, v = .ret u ∧ RV (as ++ bs) x u from rv); subst e; exact this
theorem EvS.pass {pos : Pos} : EvS prog K f d (.Pass pos) σ .next σ := by
  intro c ok as os m s Q E R hq
  exact wpAny_Pass (hq [] os m _ s rfl (by rw [app_nil]; exact R))
theorem EvS.cont {pos : Pos} : EvS prog K f d (.Continue pos) σ .cont σ := by
  intro c ok as os m s Q E R hq
  exact wpAny_Continue (hq [] os m _ s rfl (by rw [app_nil]; exact R))
theorem EvS.ret {e : Expr} {pos : Pos} {x : AV} (h : EvE prog K f d e σ x σ₁) : EvS prog K f d (.Return (some e) pos) σ (.ret x) σ₁ := by
  intro c ok as os m s Q E R hq
  exact wpAny_Return_some (h c ok as os m s _ E R fun bs os₁ m₁ v s₁ rv R₁ => hq _ _ _ _ _ ⟨v, rfl, rv⟩ R₁)
/-- stores of names -/
theorem EvS.assignL {x : Str} {pos' pos : Pos} {value : Expr} {av : AV} {l : List (Str × Option AV)} (hf : f.fn = true) (h : EvE prog K f d value σ av σ₁) (e : setLoc x av σ₁.locs = some l) (hk : look x f.cs.names = some .local)
    (hs : ∀ env : Env, swapsWith value (some (.Name x pos')) pos.line env = pure false) : EvS prog K f d (.Assign [.Name x pos'] value pos) σ .next { σ₁ with locs := l } := by
  intro c ok as os m s Q E R hq
  refine wpAny_Assign_Name (h c ok as os m s _ E R fun bs os₁ m₁ v s₁ rv R₁ => ?_) (hs _)
  exact store_local hf ok R₁ rv e hk fun m' s' R' => hq _ _ _ _ _ rfl R'
theorem EvS.assignC {x : Str} {pos' pos : Pos} {value : Expr} {av : AV} {i : Nat} {u : Option AV} (h : EvE prog K f d value σ av σ₁) (hl : look x σ₁.cells = some i) (ho : σ₁.objs[i]? = some (.cell u)) (hk : look x f.cs.names = some .cell)
    (hs : ∀ env : Env, env.kindOf x = some .cell → swapsWith value (some (.Name x pos')) pos.line env = pure false) : EvS prog K f d (.Assign [.Name x pos'] value pos) σ .next { σ₁ with objs := σ₁.objs.set i (.cell (some av)) } := by
  intro c ok as os m s Q E R hq
  refine wpAny_Assign_Name (h c ok as os m s _ E R fun bs os₁ m₁ v s₁ rv R₁ => ?_) (hs _ (ok.kindOf hk))
  exact store_cell ok R₁ rv hl ho hk fun os' s' R' => hq _ _ _ _ _ rfl R'
theorem EvS.augL {x : Str} {pos' pos : Pos} {op : Operator} {value : Expr} {old v new : AV} {l : List (Str × Option AV)} {gs : List Prop} (hf : f.fn = true) (h0 : look x σ.locs = some (some old)) (h : EvE prog K f d value σ v σ₁) (ho : opV op old v = some (new, gs)) (hg : ∀ p ∈ gs, p) (e : setLoc x new σ₁.locs = some l) (hk : look x f.cs.names = some .local) :
    EvS prog K f d (.AugAssign (.Name x pos') op value pos) σ .next { σ₁ with locs := l } := by
  intro c ok as os m s Q E R hq
  obtain ⟨u, hu, ru⟩ := R.locs x old (look_mem h0)
  refine wpAny_AugAssign_Name (wpAny_loadName_local ok.kind' (ok.kindOf hk) (ok.ns R) hu (h c ok as os m s _ E R fun bs os₁ m₁ b s₁ rb R₁ => ?_))
  refine opV_inplace ho hg c.w c.A (as ++ bs) u b s₁ _ E ru.up rb fun r t rr => ?_
  exact store_local hf ok (R₁.toks t) rr e hk fun m' s' R' => hq _ _ _ _ _ rfl R'
end
noncomputable def notSlice : Expr → Bool
  | .Slice .. => false
  | _ => true
theorem subscripted_plain {slice : Expr} {o i : Value} (h : notSlice slice = true) : subscripted slice false o i = operate [o, i] (getItem o i) := by
  cases slice <;> first | rfl | exact nb_ h
theorem listOf_isList {h : Heap} {a : Addr} {vs : Array Value} {n : Nat} (e : h.get? a = some (listOf vs n)) : h.IsList a vs := ⟨_, e, rfl, n, rfl⟩
theorem RVs.get {as : List Addr} : ∀ {xs : List AV} {vs : List Value}, RVs as xs vs → ∀ (i : Nat) x, xs[i]? = some x → ∃ v, vs[i]? = some v ∧ RV as x v
  | _, _, .nil, i, x, h => by simp at h
  | _, _, .cons r rs, 0, x, h => by simp at h; subst h; exact ⟨_, rfl, r⟩
  | _, _, .cons r rs, i + 1, x, h => by
    obtain ⟨v, h1, h2⟩ := rs.get i x (by simpa using h)
    exact ⟨v, by simpa using h1, h2⟩
theorem IntsAre.set {x : Int} {t : Tok} {vs : List Value} {xs : List Int} (rs : IntsAre vs xs) : ∀ i : Nat, IntsAre (vs.set i (.int x t)) (xs.set i x) := by
  induction rs with
  | nil => intro i; simp; exact .nil
  | cons n u rs ih =>
    intro i
    cases i with
    | zero => exact .cons _ _ rs
    | succ i => exact .cons n u (ih i)
/-- a place in a list -/
noncomputable def InB (n k : Int) : Prop := 0 ≤ k ∧ k < n ∧ k < 2 ^ 63
/-- the ints of a list of which all is an int -/
noncomputable def allI : List AV → Option (List Int)
  | [] => some []
  | x :: r => match x.i? with
    | some i => match allI r with
      | some l => some (i :: l)
      | none => none
    | none => none
theorem allI_of {as : List Addr} {xs : List AV} {vs : List Value} (rs : RVs as xs vs) : ∀ {is : List Int}, allI xs = some is → IntsAre vs is := by
  induction rs with
  | nil => intro is h; cases h; exact .nil
  | @cons x xs v vs r rs ih =>
    intro is h
    unfold allI at h
    cases e : x.i? with
    | none => rw [e] at h; first | exact no_ h | cases h
    | some i =>
      rw [e] at h
      dsimp only at h
      cases e2 : allI xs with
      | none => rw [e2] at h; first | exact no_ h | cases h
      | some l =>
        rw [e2] at h
        cases h
        obtain ⟨t, rfl⟩ := r.int_of e
        exact .cons _ _ (ih e2)
/-- lists that K holds -/
inductive KL where
  | refs (l : List Addr)
  | nums (l : List Int)
noncomputable def numsOf : List Value → Option (List Int)
  | [] => some []
  | .int i _ :: r => match numsOf r with
    | some l => some (i :: l)
    | none => none
  | _ => none
theorem numsOf_of : ∀ {vs : List Value} {is : List Int}, numsOf vs = some is → IntsAre vs is
  | [], _, h => by cases h; exact .nil
  | v :: r, is, h => by
    cases v with
    | int i t =>
      unfold numsOf at h
      cases e : numsOf r with
      | none => rw [e] at h; first | exact no_ h | cases h
      | some l => rw [e] at h; cases h; exact .cons _ _ (numsOf_of e)
    | _ => first | exact no_ h | cases h
noncomputable def KL.Ok (K : Params → Frag) (a : Addr) : KL → Prop
  | .refs l => ∀ P, (K P).lookup a = some (⟨.type "list", none, .seq (l.map Value.ref).toArray, #[]⟩ : Obj)
  | .nums l => ∃ vs, numsOf vs = some l ∧ ∀ P, (K P).lookup a = some (⟨.type "list", none, .seq vs.toArray, #[]⟩ : Obj)
section
variable {prog : Program} {K : Params → Frag} {f : Fx} {d : Nat} {σ σ₁ σ₂ σ₃ : S}
theorem EvE.subAt {value slice : Expr} {pos : Pos} {x y z : AV} (h1 : EvE prog K f d value σ x σ₁) (h2 : EvE prog K f d slice σ₁ y σ₂)
    (ht : ∀ (c : Cx) (as : List Addr) (os : List Obj) (m : Str → Option Value) (s : Shared) (Q E : Value → Shared → Prop) (a b : Value), Ok K f d c → At c as os m σ₂ s → RV as x a → RV as y b → (∀ v t, RV as z v → Q v { s with toks := t }) → wpAny (model prog c.w) c.A (subscriptTail value slice a b) Q E s) :
    EvE prog K f d (.Subscript value slice pos) σ z σ₂ := by
  intro c ok as os m s Q E R hq
  refine Subscript_ (h1 c ok as os m s _ E R fun bs os₁ m₁ a s₁ ra R₁ => ?_)
  refine h2 c ok _ os₁ m₁ s₁ _ E R₁ fun bs₂ os₂ m₂ b s₂ rb R₂ => ?_
  refine ht c _ os₂ m₂ s₂ Q E a b ok R₂ ra.up rb fun v t rv => ?_
  rw [List.append_assoc] at rv R₂
  exact hq _ _ _ _ _ rv (R₂.toks t)
theorem EvE.subI {value slice : Expr} {pos : Pos} {y : AV} {i : Nat} {xs : List Int} {k : Int} (h1 : EvE prog K f d value σ (.obj i) σ₁) (h2 : EvE prog K f d slice σ₁ y σ₂) (hn : notSlice slice = true) (hy : y.i? = some k) (hi : σ₂.objs[i]? = some (.il xs))
    (hg : InB xs.length k) : EvE prog K f d (.Subscript value slice pos) σ (.int (xs.getD k.toNat 0)) σ₂ := by
  refine .subAt h1 h2 fun c as os m s Q E a b ok R ra rb hq => ?_
  obtain ⟨q, o, g1, _, _, g2, vs, n, rfl, g3⟩ := R.obj hi
  obtain ⟨q', g1', rfl⟩ := ra
  rw [g1] at g1'; cases g1'
  obtain ⟨t, rfl⟩ := rb.int_of hy
  refine item_anyK (vs := vs.toList) (listOf_isList (n := n) (by simpa using g2)) g3 hg.1 hg.2.1 hg.2.2 (fun t => ?_) (subscripted_plain hn)
  exact hq _ s.toks ⟨t, rfl⟩
theorem EvE.toC {e : Expr} {i j : Int} (h : EvE prog K f d e σ (.int i) σ₁) (q : i = j) : EvE prog K f d e σ (.cint j) σ₁ := by subst q; exact h
theorem EvE.subL {value slice : Expr} {pos : Pos} {y z : AV} {i : Nat} {xs : List AV} {k : Int} (h1 : EvE prog K f d value σ (.obj i) σ₁) (h2 : EvE prog K f d slice σ₁ y σ₂) (hn : notSlice slice = true) (hy : y.i? = some k) (hi : σ₂.objs[i]? = some (.list xs))
    (hz : xs[k.toNat]? = some z) (hg : ∀ p ∈ [0 ≤ k, k < 2 ^ 63], p) : EvE prog K f d (.Subscript value slice pos) σ z σ₂ := by
  refine .subAt h1 h2 fun c as os m s Q E a b ok R ra rb hq => ?_
  obtain ⟨q, o, g1, _, _, g2, vs, n, rfl, g3⟩ := R.obj hi
  obtain ⟨q', g1', rfl⟩ := ra
  rw [g1] at g1'; cases g1'
  obtain ⟨t, rfl⟩ := rb.int_of hy
  obtain ⟨v, e, rv⟩ := g3.get _ _ hz
  have hl := listOf_isList (n := n) g2
  exact tail_any hl.typeIs slot_list_getitem.lookup (wpAny_getItem_list hl (hg _ (.head _)) (hg _ (.tail _ (.head _))) (by rw [← Array.getElem?_toList]; exact e) (hq _ s.toks rv)) (subscripted_plain hn)
theorem EvE.subLI {value slice : Expr} {pos : Pos} {y : AV} {i : Nat} {xs : List AV} {is : List Int} {k : Int} (h1 : EvE prog K f d value σ (.obj i) σ₁) (h2 : EvE prog K f d slice σ₁ y σ₂) (hn : notSlice slice = true) (hy : y.i? = some k) (hi : σ₂.objs[i]? = some (.list xs)) (ha : allI xs = some is)
    (hg : InB is.length k) : EvE prog K f d (.Subscript value slice pos) σ (.int (is.getD k.toNat 0)) σ₂ := by
  refine .subAt h1 h2 fun c as os m s Q E a b ok R ra rb hq => ?_
  obtain ⟨q, o, g1, _, _, g2, vs, n, rfl, g3⟩ := R.obj hi
  obtain ⟨q', g1', rfl⟩ := ra
  rw [g1] at g1'; cases g1'
  obtain ⟨t, rfl⟩ := rb.int_of hy
  refine item_anyK (vs := vs.toList) (listOf_isList (n := n) (by simpa using g2)) (allI_of g3 ha) hg.1 hg.2.1 hg.2.2 (fun t => ?_) (subscripted_plain hn)
  exact hq _ s.toks ⟨t, rfl⟩
theorem EvE.subKN {value slice : Expr} {pos : Pos} {y : AV} {a : Addr} {xs : List Int} {k : Int} (h1 : EvE prog K f d value σ (.val (.ref a)) σ₁) (h2 : EvE prog K f d slice σ₁ y σ₂) (hn : notSlice slice = true) (hy : y.i? = some k) (hi : KL.Ok K a (.nums xs))
    (hg : InB xs.length k) : EvE prog K f d (.Subscript value slice pos) σ (.int (xs.getD k.toNat 0)) σ₂ := by
  refine .subAt h1 h2 fun c as os m s Q E a' b ok R ra rb hq => ?_
  obtain ⟨vs, e, l⟩ := hi
  obtain rfl : a' = .ref a := ra
  obtain ⟨t, rfl⟩ := rb.int_of hy
  refine item_anyK (vs := vs) ⟨_, R.fr.keep _ _ (ok.kin _ _ (l _)), rfl, _, rfl⟩ (numsOf_of e) hg.1 hg.2.1 hg.2.2 (fun t => ?_) (subscripted_plain hn)
  exact hq _ s.toks ⟨t, rfl⟩
theorem EvE.subKR {value slice : Expr} {pos : Pos} {y : AV} {a b : Addr} {xs : List Addr} {k : Int} (h1 : EvE prog K f d value σ (.val (.ref a)) σ₁) (h2 : EvE prog K f d slice σ₁ y σ₂) (hn : notSlice slice = true) (hy : y.i? = some k) (hi : KL.Ok K a (.refs xs))
    (hz : xs[k.toNat]? = some b) (hg : ∀ p ∈ [0 ≤ k, k < 2 ^ 63], p) : EvE prog K f d (.Subscript value slice pos) σ (.val (.ref b)) σ₂ := by
  refine .subAt h1 h2 fun c as os m s Q E a' b' ok R ra rb hq => ?_
  obtain rfl : a' = .ref a := ra
  obtain ⟨t, rfl⟩ := rb.int_of hy
  have hl : s.heap.IsList a (xs.map Value.ref).toArray := ⟨_, R.fr.keep _ _ (ok.kin _ _ (hi _)), rfl, _, rfl⟩
  exact tail_any hl.typeIs slot_list_getitem.lookup (wpAny_getItem_list hl (hg _ (.head _)) (hg _ (.tail _ (.head _))) (by simp [hz]) (hq _ s.toks rfl)) (subscripted_plain hn)
/-- stores into lists -/
theorem store_item {c : Cx} {v : Value} {as : List Addr} {os : List Obj} {m : Str → Option Value} {s : Shared} {Q : Unit → Shared → Prop} {E : Value → Shared → Prop} {i : Nat} {a : Addr} {ao : AO} {k : Int} {t : Tok} {its : Array Value} {n : Nat} (R : At c as os m σ s) (ha : as[i]? = some a) (ho : os[i]? = some (listOf its n))
    (h0 : 0 ≤ k) (h1 : k < its.size) (h2 : k < 2 ^ 63) (r : RO c.w.params as ao (listOf (its.setIfInBounds k.toNat v) n))
    (h : ∀ os' s', At c as os' m { σ with objs := σ.objs.set i ao } s' → Q () s') : wpAny (model prog c.w) c.A (setItem (.ref a) (.int k t) v) Q E s := by
  have U := upd_zip (rest := c.rest) (listOf (its.setIfInBounds k.toNat v) n) ha ho R.nodup
  obtain ⟨pre, post, e1, e2, d1, d2⟩ := U.split
  have N := R.news
  rw [e1] at N
  have hm := N (a, listOf its n) (List.mem_append.mpr (.inr (.head _)))
  refine ki_setAt hm.1 h0 h2 h1 (h (os.set i (listOf (its.setIfInBounds k.toNat v) n)) _ (R.upd rfl rfl (R.fr.change (Heap.SameBut.update ..) hm.2.1 hm.2.2) ?_ r))
  rw [e2]
  refine ki_turn _ N d1 d2 rfl ?_
  rw [if_pos (by simp)]
theorem EvS.setI {o i : Expr} {pos' pos : Pos} {value : Expr} {x y : AV} {j : Nat} {xs : List Int} {k z : Int} (h : EvE prog K f d value σ x σ₁) (h1 : EvE prog K f d o σ₁ (.obj j) σ₂) (h2 : EvE prog K f d i σ₂ y σ₃) (hx : x.i? = some z) (hy : y.i? = some k) (hj : σ₃.objs[j]? = some (.il xs))
    (hg : InB xs.length k) (hs : ∀ env : Env, swapsWith value (some (.Subscript o i pos')) pos.line env = pure false) :
    EvS prog K f d (.Assign [.Subscript o i pos'] value pos) σ .next { σ₃ with objs := σ₃.objs.set j (.il (xs.set k.toNat z)) } := by
  intro c ok as os m s Q E R hq
  refine wpAny_Assign_Subscript (h c ok as os m s _ E R fun bs os₁ m₁ v s₁ rv R₁ => ?_) (hs _)
  refine h1 c ok _ os₁ m₁ s₁ _ E R₁ fun bs₂ os₂ m₂ w s₂ rw R₂ => ?_
  refine h2 c ok _ os₂ m₂ s₂ _ E R₂ fun bs₃ os₃ m₃ u s₃ ru R₃ => ?_
  obtain ⟨t, rfl⟩ := rv.int_of hx
  obtain ⟨t', rfl⟩ := ru.int_of hy
  obtain ⟨a, ha, rfl⟩ := rw
  obtain ⟨a', ob, g1, g2, _, _, vs, n, rfl, g3⟩ := R₃.obj hj
  have g1' := getElem?_app (r := bs₃) ha
  rw [g1'] at g1
  cases g1
  have hl : vs.size = xs.length := by rw [← g3.length]; simp
  refine store_item (ao := .il (xs.set k.toNat z)) R₃ g1' g2 hg.1 (by rw [hl]; exact hg.2.1) hg.2.2 ⟨_, n, rfl, ?_⟩ fun os' s' R' => ?_
  · rw [Array.toList_setIfInBounds]
    exact IntsAre.set g3 _
  · rw [List.append_assoc, List.append_assoc] at R'
    exact hq _ _ _ _ _ rfl R'
end
theorem starEach_len (env : Env) (pos : Pos) : ∀ {es : List Expr}, (∀ e ∈ es, notStar e = true) → (backTo pos (starEach es env)).all (fun x => !x.1) = true
  | [], _ => rfl
  | e :: r, h => by
    rw [starEach_plain (h e (.head _))]
    show ((!false) && (backTo pos (starEach r env)).all (fun x => !x.1)) = true
    rw [starEach_len env pos fun e' he => h e' (.tail _ he)]
    rfl
theorem meth_eq {n name : Str} {np apos pos : Pos} {es : List Expr} {env : Env} (hs : ∀ e ∈ es, notStar e = true) (hl : es.length < 29) (hline : (apos.endLine == pos.line) = true) :
    eval (.Call (.Attribute (.Name n np) name apos) es [] pos) env = (do
      let ov ← eval (.Name n np) env
      standAt apos.atName
      let (f, first) ← holding [ov] (getMethod ov name (do return (← importBound (.Name n np) env).getD true))
      callWith pos f first (backTo pos (starEach es env)) []) := by
  have hform : methodCallForm (es.length + ([] : List Keyword).length) (backTo pos (starEach es env)) (backToKw pos (keywordEach [] env)) = true := by
    unfold methodCallForm
    rw [starEach_len env pos hs]
    show (true && true && decide (es.length + 0 + 0 < 30)) = true
    simp
    lia
  have hpos : methodCallPos true (.Name n np) env apos pos = pure pos := by unfold methodCallPos; simp [hline]
  rw [PySem.arm_eval_Call]
  show (do
    let ov ← eval (.Name n np) env
    standAt apos.atName
    methodCall (.Name n np) name apos pos env ov (es.length + ([] : List Keyword).length) (backTo pos (starEach es env)) (backToKw pos (keywordEach [] env))) = _
  congr 1
  funext ov
  congr 1
  funext _
  unfold methodCall
  rw [hform]
  congr 1
  funext p
  rw [hpos]
  rfl
noncomputable def notComp : Expr → Bool
  | .ListComp .. => false
  | .SetComp .. => false
  | .DictComp .. => false
  | _ => true
theorem swaps_plain {e : Expr} {t : Option Expr} {n : Nat} {env : Env} (h : notComp e = true) : swapsWith e t n env = pure false := by
  cases e <;> first | rfl | exact nb_ h
inductive Ora where
  | b (x : Bool)
  | n (i : Nat)
  | k (i : Int)
  | e (x : AV) (σ : S)
  | s (x : Out) (σ : S)
abbrev Orc := List Ora
abbrev R (α : Type) := Option (α × S × Orc × List Prop)
noncomputable def opt {α β : Type} (x : Option α) (k : α → Option β) : Option β := match x with
  | none => none
  | some a => k a
noncomputable def tst {β : Type} (b : Bool) (k : Option β) : Option β := match b with
  | true => k
  | false => none
noncomputable def bnd {α β : Type} (m : R α) (k : α → S → Orc → R β) : R β := match m with
  | none => none
  | some (a, σ, o, g) => match k a σ o with
    | none => none
    | some (b, σ', o', g') => some (b, σ', o', g ++ g')
noncomputable def grd {β : Type} (g : List Prop) (m : R β) : R β := match m with
  | none => none
  | some (b, σ', o', g') => some (b, σ', o', g ++ g')
noncomputable def nth {α : Type} : List α → Nat → Option α
  | [], _ => none
  | a :: _, 0 => some a
  | _ :: r, n + 1 => nth r n
theorem nth_eq {α : Type} : ∀ {l : List α} {n : Nat}, nth l n = l[n]?
  | [], _ => by simp [nth]
  | a :: r, 0 => by simp [nth]
  | a :: r, n + 1 => by simp only [nth, List.getElem?_cons_succ]; exact nth_eq
noncomputable def upd {α : Type} : List α → Nat → α → List α
  | [], _, _ => []
  | _ :: r, 0, x => x :: r
  | a :: r, n + 1, x => a :: upd r n x
theorem upd_eq {α : Type} : ∀ {l : List α} {n : Nat} {x : α}, upd l n x = l.set n x
  | [], _, _ => by simp [upd]
  | a :: r, 0, _ => by simp [upd]
  | a :: r, n + 1, _ => by simp only [upd, List.set_cons_succ, upd_eq]
inductive OptI {α β : Type} (x : Option α) (k : α → Option β) (c : β) : Prop
  | mk (a : α) (h1 : x = some a) (h2 : k a = some c) : OptI x k c
theorem opt_some {α β : Type} {x : Option α} {k : α → Option β} {c : β} (h : opt x k = some c) : OptI x k c := by
  cases x with
  | none => first | exact no_ h | cases h
  | some a => exact ⟨a, rfl, h⟩
theorem tst_some {β : Type} {b : Bool} {k : Option β} {c : β} (h : tst b k = some c) : b = true ∧ k = some c := by
  cases b with
  | false => first | exact no_ h | cases h
  | true => exact ⟨rfl, h⟩
inductive BndI {α β : Type} (m : R α) (k : α → S → Orc → R β) (b : β) (σ' : S) (o' : Orc) (g : List Prop) : Prop
  | mk (a : α) (σ : S) (o : Orc) (g1 g2 : List Prop) (h1 : m = some (a, σ, o, g1)) (h2 : k a σ o = some (b, σ', o', g2)) (hg : (∀ p ∈ g, p) → (∀ p ∈ g1, p) ∧ ∀ p ∈ g2, p) : BndI m k b σ' o' g
theorem bnd_some {α β : Type} {m : R α} {k : α → S → Orc → R β} {b : β} {σ' : S} {o' : Orc} {g : List Prop} (h : bnd m k = some (b, σ', o', g)) : BndI m k b σ' o' g := by
  cases m with
  | none => first | exact no_ h | cases h
  | some q =>
    obtain ⟨a, σ, o, g1⟩ := q
    unfold bnd at h
    dsimp only at h
    cases e : k a σ o with
    | none => rw [e] at h; first | exact no_ h | cases h
    | some q =>
      obtain ⟨b', σ'', o'', g2⟩ := q
      rw [e] at h
      cases h
      exact ⟨a, σ, o, g1, g2, rfl, e, fun h => ⟨fun p hp => h p (List.mem_append_left _ hp), fun p hp => h p (List.mem_append_right _ hp)⟩⟩
theorem grd_some {β : Type} {m : R β} {b : β} {σ' : S} {o' : Orc} {g0 g : List Prop} (h : grd g0 m = some (b, σ', o', g)) : ∃ g2, m = some (b, σ', o', g2) ∧ ((∀ p ∈ g, p) → (∀ p ∈ g0, p) ∧ ∀ p ∈ g2, p) := by
  cases m with
  | none => first | exact no_ h | cases h
  | some q =>
    obtain ⟨b', σ'', o'', g2⟩ := q
    cases h
    exact ⟨g2, rfl, fun h => ⟨fun p hp => h p (List.mem_append_left _ hp), fun p hp => h p (List.mem_append_right _ hp)⟩⟩
structure Tab where
  C : Addr
  own : List Str
  nums : List (Str × Int)
  refs : List (Str × Addr)
  meths : List (Str × Addr)
  globs : List (Str × Value)
  blts : List (Str × Blt)
  fns : List Fn
  lists : List (Addr × KL)
structure TabOk (K : Params → Frag) (T : Tab) : Prop where
  own : ∀ x ∈ T.own, (∀ P, ownName (K P) T.C x = true) ∧ ∀ P, setName (K P) T.C x = true
  nums : ∀ p ∈ T.nums, ∃ t, ∀ P, clsName (K P) T.C p.1 (.int p.2 t) = true
  refs : ∀ p ∈ T.refs, ∀ P, clsName (K P) T.C p.1 (.ref p.2) = true
  meths : ∀ p ∈ T.meths, ∀ P, methName (K P) T.C p.1 p.2 = true
  globs : ∀ p ∈ T.globs, ∀ P, nsIn (K P) mainGlobals p.1 = some (some p.2)
  blts : ∀ p ∈ T.blts, (∀ P, nsIn (K P) mainGlobals p.1 = some none) ∧ bootBuiltins p.1 = some p.2.value
  fns : ∀ F ∈ T.fns, FnOk K F ∧ ∀ P, keepIn (K P) (.ref F.a) = true ∧ fnIn (K P) F.a = true
  lists : ∀ p ∈ T.lists, KL.Ok K p.1 p.2
  one : ∀ P, ((K P).lookup sysModules).isSome = true
noncomputable def has (x : Str) : List Str → Bool
  | [] => false
  | y :: r => match Fast.sEq y x with
    | true => true
    | false => has x r
theorem has_mem {x : Str} : ∀ {l : List Str}, has x l = true → x ∈ l
  | [], h => by cases h
  | y :: r, h => by
    unfold has at h
    cases e : Fast.sEq y x with
    | true => have := Fast.sEq_iff.mp e; subst this; exact .head _
    | false => rw [e] at h; exact .tail _ (has_mem h)
noncomputable def atA {α : Type} (a : Addr) : List (Addr × α) → Option α
  | [] => none
  | (b, v) :: r => match Nat.beq b a with
    | true => some v
    | false => atA a r
theorem atA_mem {α : Type} {a : Addr} {v : α} : ∀ {l : List (Addr × α)}, atA a l = some v → (a, v) ∈ l
  | [], h => by cases h
  | (b, u) :: r, h => by
    unfold atA at h
    cases e : Nat.beq b a with
    | true => rw [e] at h; cases h; have := Nat.eq_of_beq_eq_true e; subst this; exact .head _
    | false => rw [e] at h; exact .tail _ (atA_mem h)
noncomputable def fnAt (a : Addr) : List Fn → Option Fn
  | [] => none
  | F :: r => match Nat.beq F.a a with
    | true => some F
    | false => fnAt a r
theorem fnAt_mem {a : Addr} {F : Fn} : ∀ {l : List Fn}, fnAt a l = some F → F ∈ l ∧ F.a = a
  | [], h => by cases h
  | G :: r, h => by
    unfold fnAt at h
    cases e : Nat.beq G.a a with
    | true => rw [e] at h; cases h; exact ⟨.head _, Nat.eq_of_beq_eq_true e⟩
    | false => rw [e] at h; exact ⟨.tail _ (fnAt_mem h).1, (fnAt_mem h).2⟩
/-- what is evaluated at one level of the depth -/
structure Ev where
  e : Fx → Expr → S → Orc → R AV
  t : Fx → Expr → S → Orc → R Bool
  b : Fx → List Stmt → S → Orc → R Out
  c : Addr → List AV → List AO → Orc → Option (AV × List AO × Orc × List Prop)
structure Sound (prog : Program) (K : Params → Frag) (n : Nat) (r : Ev) : Prop where
  e : ∀ {f e σ o x σ' o' g}, r.e f e σ o = some (x, σ', o', g) → (∀ p ∈ g, p) → EvE prog K f n e σ x σ'
  t : ∀ {f e σ o x σ' o' g}, r.t f e σ o = some (x, σ', o', g) → (∀ p ∈ g, p) → EvT prog K f n e σ x σ'
  b : ∀ {f e σ o x σ' o' g}, r.b f e σ o = some (x, σ', o', g) → (∀ p ∈ g, p) → EvB prog K f n e σ x σ'
  c : ∀ {fa args objs o x objs' o' g}, r.c fa args objs o = some (x, objs', o', g) → (∀ p ∈ g, p) → CallT prog K n fa args objs x objs' ∧ ∀ P, keepIn (K P) (.ref fa) = true ∧ fnIn (K P) fa = true
section
variable {prog : Program} {K : Params → Frag} {T : Tab} {n : Nat} {r : Ev} {f : Fx} {σ : S} {o : Orc}
theorem EvE.more {d d' : Nat} {e : Expr} {x : AV} {σ' : S} (h : EvE prog K f d e σ x σ') (le : d ≤ d') : EvE prog K f d' e σ x σ' := fun c ok => h c (ok.weak le)
theorem EvT.more {d d' : Nat} {e : Expr} {x : Bool} {σ' : S} (h : EvT prog K f d e σ x σ') (le : d ≤ d') : EvT prog K f d' e σ x σ' := fun c ok => h c (ok.weak le)
theorem EvB.more {d d' : Nat} {e : List Stmt} {x : Out} {σ' : S} (h : EvB prog K f d e σ x σ') (le : d ≤ d') : EvB prog K f d' e σ x σ' := fun c ok => h c (ok.weak le)
theorem EvS.more {d d' : Nat} {e : Stmt} {x : Out} {σ' : S} (h : EvS prog K f d e σ x σ') (le : d ≤ d') : EvS prog K f d' e σ x σ' := fun c ok => h c (ok.weak le)
theorem CallT.more {d d' : Nat} {fa : Addr} {args : List AV} {objs objs' : List AO} {x : AV} (h : CallT prog K d fa args objs x objs') (le : d ≤ d') : CallT prog K d' fa args objs x objs' := fun f c σ hf ok => h f c σ hf (ok.weak (by lia))
theorem Sound.e' (H : Sound prog K n r) {e x σ' o' g} (h : r.e f e σ o = some (x, σ', o', g)) (hg : ∀ p ∈ g, p) : EvE prog K f (n + 1) e σ x σ' := (H.e h hg).more (Nat.le_succ _)
theorem Sound.t' (H : Sound prog K n r) {e x σ' o' g} (h : r.t f e σ o = some (x, σ', o', g)) (hg : ∀ p ∈ g, p) : EvT prog K f (n + 1) e σ x σ' := (H.t h hg).more (Nat.le_succ _)
theorem Sound.b' (H : Sound prog K n r) {e x σ' o' g} (h : r.b f e σ o = some (x, σ', o', g)) (hg : ∀ p ∈ g, p) : EvB prog K f (n + 1) e σ x σ' := (H.b h hg).more (Nat.le_succ _)
noncomputable def ret {α : Type} (x : α) (σ : S) (o : Orc) : R α := some (x, σ, o, [])
theorem EvE.cstr {d : Nat} {i : Str} {k : Nat} {pos : Pos} : EvE prog K f d (.Constant (.str i) k pos) σ (.str i) σ := by
  intro c ok as os m s Q E R h
  refine wpAny_Constant_str (h [] os m _ _ ?_ ?_)
  · exact ⟨_, rfl⟩
  · rw [app_nil]; exact R.toks _
theorem EvE.cbool {d : Nat} {i : Bool} {k : Nat} {pos : Pos} : EvE prog K f d (.Constant (.bool i) k pos) σ (.cb i) σ := by
  intro c ok as os m s Q E R h
  exact wpAny_Constant_bool (h [] os m _ _ rfl (by rw [app_nil]; exact R))
noncomputable def stConst (c : Const) (σ : S) (o : Orc) : R AV := match c with
  | .int i => ret (.cint i) σ o
  | .none => ret (.val .none) σ o
  | .str x => ret (.str x) σ o
  | .bool b => ret (.cb b) σ o
  | _ => none
theorem finE {d : Nat} {e : Expr} {x v : AV} {σ₁ σ' : S} {o₁ o' : Orc} {g₁ g : List Prop} (h : (some (x, σ₁, o₁, g₁) : R AV) = some (v, σ', o', g)) (E : EvE prog K f d e σ x σ₁) : EvE prog K f d e σ v σ' := by cases h; exact E
theorem finS {d : Nat} {e : Stmt} {x v : Out} {σ₁ σ' : S} {o₁ o' : Orc} {g₁ g : List Prop} (h : (some (x, σ₁, o₁, g₁) : R Out) = some (v, σ', o', g)) (E : EvS prog K f d e σ x σ₁) : EvS prog K f d e σ v σ' := by cases h; exact E
theorem finEg {d : Nat} {e : Expr} {x v : AV} {σ₁ σ' : S} {o₁ o' : Orc} {g₁ g : List Prop} (h : (some (x, σ₁, o₁, g₁) : R AV) = some (v, σ', o', g)) (hg : ∀ p ∈ g, p) (E : (∀ p ∈ g₁, p) → EvE prog K f d e σ x σ₁) : EvE prog K f d e σ v σ' := by cases h; exact E hg
theorem finSg {d : Nat} {e : Stmt} {x v : Out} {σ₁ σ' : S} {o₁ o' : Orc} {g₁ g : List Prop} (h : (some (x, σ₁, o₁, g₁) : R Out) = some (v, σ', o', g)) (hg : ∀ p ∈ g, p) (E : (∀ p ∈ g₁, p) → EvS prog K f d e σ x σ₁) : EvS prog K f d e σ v σ' := by cases h; exact E hg
theorem stConst_ok {c : Const} {k : Nat} {pos : Pos} {x : AV} {σ' : S} {o' : Orc} {g : List Prop} (h : stConst c σ o = some (x, σ', o', g)) : EvE prog K f n (.Constant c k pos) σ x σ' := by
  cases c <;> first | exact no_ h | (cases h; done) | skip
  · exact finE h (.cnone)
  · exact finE h (.cbool)
  · exact finE h (.cint)
  · exact finE h (.cstr)
noncomputable def stName (T : Tab) (f : Fx) (x : Str) (σ : S) (o : Orc) : R AV := tst (nd x) (opt (look x f.cs.names) fun k => match k with
  | .local => opt (look x σ.locs) fun v => match v with
    | some av => ret av σ o
    | none => none
  | .cell => opt (look x σ.cells) fun i => opt (nth σ.objs i) fun ao => match ao with
    | .cell (some av) => ret av σ o
    | _ => none
  | .free => opt (look x σ.cells) fun i => opt (nth σ.objs i) fun ao => match ao with
    | .cell (some av) => ret av σ o
    | _ => none
  | .globalImplicit => match look x T.globs with
    | some v => ret (.val v) σ o
    | none => opt (look x T.blts) fun v => ret (.blt v) σ o
  | _ => none)
theorem stName_ok (H : TabOk K T) {x : Str} {pos : Pos} {v : AV} {σ' : S} {o' : Orc} {g : List Prop} (h : stName T f x σ o = some (v, σ', o', g)) : EvE prog K f n (.Name x pos) σ v σ' := by
  replace h := tst_some h
  obtain ⟨hd, h⟩ := h
  replace h := opt_some h
  obtain ⟨k, hk, h⟩ := h
  cases k <;> first | exact no_ h | (cases h; done) | skip
  · replace h := opt_some h
    obtain ⟨u, hl, h⟩ := h
    cases u with
    | none => first | exact no_ h | cases h
    | some av => exact finE h (.loc hl hk hd)
  · replace h := opt_some h
    obtain ⟨i, hl, h⟩ := h
    replace h := opt_some h
    obtain ⟨ao, ho, h⟩ := h
    rw [nth_eq] at ho
    cases ao <;> first | exact no_ h | (cases h; done) | skip
    rename_i u
    cases u with
    | none => first | exact no_ h | cases h
    | some av => exact finE h (.cellN hl ho hk (.inl rfl) hd)
  · replace h := opt_some h
    obtain ⟨i, hl, h⟩ := h
    replace h := opt_some h
    obtain ⟨ao, ho, h⟩ := h
    rw [nth_eq] at ho
    cases ao <;> first | exact no_ h | (cases h; done) | skip
    rename_i u
    cases u with
    | none => first | exact no_ h | cases h
    | some av => exact finE h (.cellN hl ho hk (.inr rfl) hd)
  · dsimp only at h
    cases e : look x T.globs with
    | some u => rw [e] at h; exact finE h (.glob (H.globs _ (look_mem e)) hk hd)
    | none =>
      rw [e] at h
      replace h := opt_some h
      obtain ⟨u, hl, h⟩ := h
      obtain ⟨h1, h2⟩ := H.blts _ (look_mem hl)
      exact finE h (.built h1 h2 hk hd)
noncomputable def instAt (C : Addr) (σ : S) (i : Nat) : Option (Nat × List (Str × AV)) := opt (nth σ.objs i) fun ao => match ao with
  | .inst D j => tst (Nat.beq D C) (opt (nth σ.objs j) fun bo => match bo with
    | .attrs es => some (j, es)
    | _ => none)
  | _ => none
theorem instAt_of {C : Addr} {i j : Nat} {es : List (Str × AV)} (h : instAt C σ i = some (j, es)) : σ.objs[i]? = some (.inst C j) ∧ σ.objs[j]? = some (.attrs es) := by
  replace h := opt_some h
  obtain ⟨ao, h1, h⟩ := h
  rw [nth_eq] at h1
  cases ao <;> first | exact no_ h | (cases h; done) | skip
  replace h := tst_some h
  obtain ⟨h2, h⟩ := h
  replace h := opt_some h
  obtain ⟨bo, h3, h⟩ := h
  rw [nth_eq] at h3
  cases bo <;> first | exact no_ h | (cases h; done) | skip
  cases h
  have := Nat.eq_of_beq_eq_true h2
  subst this
  exact ⟨h1, h3⟩
noncomputable def objI : AV → Option Nat
  | .obj i => some i
  | _ => none
theorem objI_of {x : AV} {i : Nat} (h : objI x = some i) : x = .obj i := by cases x <;> first | exact no_ h | (cases h; done) | (cases h; rfl)
noncomputable def stAttr (T : Tab) (f : Fx) (y : Str) (x : Str) (σ : S) (o : Orc) : R AV := bnd (stName T f y σ o) fun v σ o => opt (objI v) fun i => opt (instAt T.C σ i) fun p => match look x p.2 with
  | some av => tst (hand av) (tst (has x T.own) (ret av σ o))
  | none => match look x T.nums with
    | some k => ret (.cint k) σ o
    | none => match look x T.meths with
      | some fa => ret (.obj σ.objs.length) { σ with objs := σ.objs ++ [.meth fa (.obj i)] } o
      | none => opt (look x T.refs) fun a => ret (.val (.ref a)) σ o
theorem stAttr_ok (H : TabOk K T) {y x : Str} {np pos : Pos} {v : AV} {σ' : S} {o' : Orc} {g : List Prop} (h : stAttr T f y x σ o = some (v, σ', o', g)) : EvE prog K f n (.Attribute (.Name y np) x pos) σ v σ' := by
  replace h := bnd_some h
  obtain ⟨u, σ₁, o₁, g1, g2, h1, h, _⟩ := h
  replace h := opt_some h
  obtain ⟨i, hi, h⟩ := h
  replace h := opt_some h
  obtain ⟨⟨j, es⟩, hj, h⟩ := h
  obtain ⟨ho, ha⟩ := instAt_of hj
  have hN := stName_ok (prog := prog) (n := n) (pos := np) H h1
  rw [objI_of hi] at hN
  dsimp only at h
  cases e : look x es with
  | some av =>
    rw [e] at h
    replace h := tst_some h
    obtain ⟨hh, h⟩ := h
    replace h := tst_some h
    obtain ⟨hw, h⟩ := h
    exact finE h (.attr hN ho ha (H.own _ (has_mem hw)).1 e hh)
  | none =>
    rw [e] at h
    dsimp only at h
    cases e1 : look x T.nums with
    | some k =>
      rw [e1] at h
      obtain ⟨t, ht⟩ := H.nums _ (look_mem e1)
      exact finE h (.clsAttr hN ho ha ht e fun as => ⟨t, rfl⟩)
    | none =>
      rw [e1] at h
      dsimp only at h
      cases e2 : look x T.meths with
      | some fa =>
        rw [e2] at h
        exact finE h (.bound hN ho ha (H.meths _ (look_mem e2)) e)
      | none =>
        rw [e2] at h
        replace h := opt_some h
        obtain ⟨a, e3, h⟩ := h
        exact finE h (.clsAttr hN ho ha (H.refs _ (look_mem e3)) e fun as => rfl)
noncomputable def stBin (r : Ev) (f : Fx) (op : Operator) (l e : Expr) (σ : S) (o : Orc) : R AV := bnd (r.e f l σ o) fun x σ o => bnd (r.e f e σ o) fun y σ o => opt (opV op x y) fun p => some (p.1, σ, o, p.2)
theorem stBin_ok (H : Sound prog K n r) {op : Operator} {l e : Expr} {pos : Pos} {v : AV} {σ' : S} {o' : Orc} {g : List Prop} (h : stBin r f op l e σ o = some (v, σ', o', g)) (hg : ∀ p ∈ g, p) : EvE prog K f (n + 1) (.BinOp l op e pos) σ v σ' := by
  replace h := bnd_some h
  obtain ⟨x, σ₁, o₁, g1, g2, h1, h, k1⟩ := h
  replace h := bnd_some h
  obtain ⟨y, σ₂, o₂, g3, g4, h2, h, k2⟩ := h
  replace h := opt_some h
  obtain ⟨⟨z, gs⟩, h3, h⟩ := h
  have k1 := k1 hg
  have k2 := k2 k1.2
  exact finEg h k2.2 fun hgs => .bin (H.e' h1 k1.1) (H.e' h2 k2.1) h3 hgs
noncomputable def stUn (r : Ev) (f : Fx) (op : UnaryOp) (e : Expr) (σ : S) (o : Orc) : R AV := bnd (r.e f e σ o) fun x σ o => opt x.i? fun a => match op with
  | .Invert => ret (mkI x.known (Builtin.bitNot a)) σ o
  | .USub => ret (mkI x.known (-a)) σ o
  | _ => none
theorem stUn_ok (H : Sound prog K n r) {op : UnaryOp} {e : Expr} {pos : Pos} {v : AV} {σ' : S} {o' : Orc} {g : List Prop} (h : stUn r f op e σ o = some (v, σ', o', g)) (hg : ∀ p ∈ g, p) : EvE prog K f (n + 1) (.UnaryOp op e pos) σ v σ' := by
  replace h := bnd_some h
  obtain ⟨x, σ₁, o₁, g1, g2, h1, h, k1⟩ := h
  replace h := opt_some h
  obtain ⟨a, ha, h⟩ := h
  have k1 := k1 hg
  cases op <;> first | exact no_ h | (cases h; done) | skip
  · exact finE h (.inv (H.e' h1 k1.1) ha)
  · exact finE h (.neg (H.e' h1 k1.1) ha)
noncomputable def stCmp (r : Ev) (f : Fx) (op : CmpOp) (l e : Expr) (σ : S) (o : Orc) : R AV := tst (!behindInMarks op e) (bnd (r.e f l σ o) fun x σ o => bnd (r.e f e σ o) fun y σ o => opt (cmpV op x y) fun z => ret z σ o)
theorem stCmp_ok (H : Sound prog K n r) {op : CmpOp} {l e : Expr} {v : AV} {σ' : S} {o' : Orc} {g : List Prop} (h : stCmp r f op l e σ o = some (v, σ', o', g)) (hg : ∀ p ∈ g, p) :
    ∃ x y σ₁, EvE prog K f (n + 1) l σ x σ₁ ∧ EvE prog K f (n + 1) e σ₁ y σ' ∧ behindInMarks op e = false ∧ cmpV op x y = some v := by
  replace h := tst_some h
  obtain ⟨hb, h⟩ := h
  replace h := bnd_some h
  obtain ⟨x, σ₁, o₁, g1, g2, h1, h, k1⟩ := h
  replace h := bnd_some h
  obtain ⟨y, σ₂, o₂, g3, g4, h2, h, k2⟩ := h
  replace h := opt_some h
  obtain ⟨z, h3, h⟩ := h
  cases h
  have k1 := k1 hg
  have k2 := k2 k1.2
  exact ⟨x, y, σ₁, H.e' h1 k1.1, H.e' h2 k2.1, by simpa using hb, h3⟩
/-- a truth value that is not known is asked -/
noncomputable def ask (b k : Bool) (σ : S) (o : Orc) : R Bool := match k with
  | true => ret b σ o
  | false => match o with
    | .b c :: o' => some (c, σ, o', [b = c])
    | _ => none
theorem ask_ok {b k x : Bool} {σ' : S} {o' : Orc} {g : List Prop} (h : ask b k σ o = some (x, σ', o', g)) (hg : ∀ p ∈ g, p) : x = b ∧ σ' = σ := by
  cases k with
  | true => cases h; exact ⟨rfl, rfl⟩
  | false =>
    cases o with
    | nil => first | exact no_ h | cases h
    | cons q o =>
      cases q <;> first | exact no_ h | (cases h; done) | skip
      cases h
      exact ⟨(hg _ (.head _)).symm, rfl⟩
noncomputable def stTruth (x : AV) (σ : S) (o : Orc) : R Bool := opt (truthV x) fun p => ask p.1 p.2 σ o
theorem stTruth_ok {x : AV} {b : Bool} {σ' : S} {o' : Orc} {g : List Prop} (h : stTruth x σ o = some (b, σ', o', g)) (hg : ∀ p ∈ g, p) : (∃ k, truthV x = some (b, k)) ∧ σ' = σ := by
  replace h := opt_some h
  obtain ⟨⟨b', k⟩, h1, h⟩ := h
  obtain ⟨rfl, rfl⟩ := ask_ok h hg
  exact ⟨⟨k, h1⟩, rfl⟩
end
noncomputable def natOf : Int → Option Nat
  | .ofNat n => some n
  | .negSucc _ => none
theorem natOf_of {k : Int} {j : Nat} (h : natOf k = some j) : k = (j : Int) := by cases k <;> first | (cases h; rfl) | cases h
noncomputable def small (j : Nat) : Bool := Nat.ble j 4294967296
theorem small_of {k : Int} {j : Nat} (h : natOf k = some j) (hs : small j = true) : ∀ p ∈ [0 ≤ k, k < 2 ^ 63], p := by
  have := natOf_of h
  have h2 : j ≤ 4294967296 := Nat.le_of_ble_eq_true hs
  subst this
  intro p hp
  rcases List.mem_cons.mp hp with rfl | hp
  · lia
  · rcases List.mem_cons.mp hp with rfl | hp
    · lia
    · cases hp
section
variable {prog : Program} {K : Params → Frag} {T : Tab} {n : Nat} {r : Ev} {f : Fx} {σ : S} {o : Orc}
noncomputable def itemPlain (xs : List Int) (k : Int) (σ : S) (o : Orc) : R AV := some (.int (xs.getD k.toNat 0), σ, o, [InB xs.length k])
noncomputable def itemI (xs : List Int) (k : Int) (σ : S) (o : Orc) : R AV := match o with
  | q :: o' => match q with
    | .k i => some (.cint i, σ, o', [InB xs.length k, xs.getD k.toNat 0 = i])
    | q => itemPlain xs k σ (q :: o')
  | [] => itemPlain xs k σ []
noncomputable def itemKn (k : Int) (xs : List α) (F : α → AV) (σ : S) (o : Orc) : R AV := opt (natOf k) fun j => tst (small j) (opt (nth xs j) fun z => ret (F z) σ o)
noncomputable def itemLI (xs : List AV) (k : Int) (σ : S) (o : Orc) : R AV := opt (allI xs) fun is => itemPlain is k σ o
noncomputable def itemL (xs : List AV) (y : AV) (k : Int) (σ : S) (o : Orc) : R AV := match y.known with
  | true => itemKn k xs id σ o
  | false => itemLI xs k σ o
noncomputable def itemN (xs : List Int) (y : AV) (k : Int) (σ : S) (o : Orc) : R AV := match y.known with
  | true => itemKn k xs .cint σ o
  | false => itemPlain xs k σ o
noncomputable def itemRo (xs : List Addr) (k : Int) (σ : S) (o : Orc) : R AV := match o with
  | q :: o' => match q with
    | .n j => tst (small j) (opt (nth xs j) fun z => some (.val (.ref z), σ, o', [k = (j : Int)]))
    | _ => none
  | [] => none
noncomputable def itemR (xs : List Addr) (y : AV) (k : Int) (σ : S) (o : Orc) : R AV := match y.known with
  | true => itemKn k xs (fun z => .val (.ref z)) σ o
  | false => itemRo xs k σ o
noncomputable def itemO (ao : AO) (y : AV) (σ : S) (o : Orc) : R AV := match ao with
  | .il xs => opt y.i? fun k => itemI xs k σ o
  | .list xs => opt y.i? fun k => itemL xs y k σ o
  | _ => none
noncomputable def itemT (l : KL) (y : AV) (σ : S) (o : Orc) : R AV := match l with
  | .nums xs => opt y.i? fun k => itemN xs y k σ o
  | .refs xs => opt y.i? fun k => itemR xs y k σ o
noncomputable def itemV (T : Tab) (v : Value) (y : AV) (σ : S) (o : Orc) : R AV := match v with
  | .ref a => opt (atA a T.lists) fun l => itemT l y σ o
  | _ => none
noncomputable def stItem (T : Tab) (x y : AV) (σ : S) (o : Orc) : R AV := match x with
  | .obj i => opt (nth σ.objs i) fun ao => itemO ao y σ o
  | .val v => itemV T v y σ o
  | _ => none
noncomputable def stSub (T : Tab) (r : Ev) (f : Fx) (v s : Expr) (σ : S) (o : Orc) : R AV := tst (notSlice s) (bnd (r.e f v σ o) fun x σ o => bnd (r.e f s σ o) fun y σ o => stItem T x y σ o)
section
variable {x y z : AV} {σ₀ σ₁ σ' : S} {o₁ o' : Orc} {g : List Prop} {v s : Expr} {pos : Pos} {i : Nat} {k : Int}
theorem itemKn_ok {α : Type} {xs : List α} {F : α → AV} {e : Expr} (h : itemKn k xs F σ₁ o₁ = some (z, σ', o', g)) (hE : ∀ (j : Nat) (w : α), k = (j : Int) → natOf k = some j → small j = true → xs[j]? = some w → EvE prog K f n e σ (F w) σ₁) : EvE prog K f n e σ z σ' := by
  obtain ⟨j, hj, h⟩ := opt_some h
  obtain ⟨hs, h⟩ := tst_some h
  obtain ⟨w, hw, h⟩ := opt_some h
  rw [nth_eq] at hw
  exact finE h (hE j w (natOf_of hj) hj hs hw)
theorem itemI_ok {xs : List Int} (h : itemI xs k σ₁ o₁ = some (z, σ', o', g)) (hg : ∀ p ∈ g, p) (h1 : EvE prog K f n v σ (.obj i) σ₀) (h2 : EvE prog K f n s σ₀ y σ₁) (hn : notSlice s = true) (hk : y.i? = some k) (ho : σ₁.objs[i]? = some (.il xs)) : EvE prog K f n (.Subscript v s pos) σ z σ' := by
  have plain : ∀ {o₁}, itemPlain xs k σ₁ o₁ = some (z, σ', o', g) → EvE prog K f n (.Subscript v s pos) σ z σ' := fun h => finEg h hg fun hg => .subI h1 h2 hn hk ho (hg _ (.head _))
  cases o₁ with
  | nil => exact plain h
  | cons q o₁ =>
    cases q with
    | k i => exact finEg h hg fun hg => .toC (.subI h1 h2 hn hk ho (hg _ (.head _))) (hg _ (.tail _ (.head _)))
    | _ => exact plain h
theorem itemL_ok {xs : List AV} (h : itemL xs y k σ₁ o₁ = some (z, σ', o', g)) (hg : ∀ p ∈ g, p) (h1 : EvE prog K f n v σ (.obj i) σ₀) (h2 : EvE prog K f n s σ₀ y σ₁) (hn : notSlice s = true) (hk : y.i? = some k) (ho : σ₁.objs[i]? = some (.list xs)) : EvE prog K f n (.Subscript v s pos) σ z σ' := by
  unfold itemL at h
  cases e : y.known with
  | true =>
    rw [e] at h
    exact itemKn_ok h fun j w hj hj' hs hw => .subL h1 h2 hn hk ho (by rw [hj]; exact hw) (small_of hj' hs)
  | false =>
    rw [e] at h
    obtain ⟨is, hi, h⟩ := opt_some h
    exact finEg h hg fun hg => .subLI h1 h2 hn hk ho hi (hg _ (.head _))
theorem itemN_ok {a : Addr} {xs : List Int} (L : KL.Ok K a (.nums xs)) (h : itemN xs y k σ₁ o₁ = some (z, σ', o', g)) (hg : ∀ p ∈ g, p) (h1 : EvE prog K f n v σ (.val (.ref a)) σ₀) (h2 : EvE prog K f n s σ₀ y σ₁) (hn : notSlice s = true) (hk : y.i? = some k) : EvE prog K f n (.Subscript v s pos) σ z σ' := by
  unfold itemN at h
  cases e : y.known with
  | true =>
    rw [e] at h
    refine itemKn_ok h fun j w hj hj' hs hw => ?_
    have sm := small_of hj' hs
    have hlt := (List.getElem?_eq_some_iff.mp hw).1
    refine .toC (.subKN h1 h2 hn hk L ⟨sm _ (.head _), by rw [hj]; lia, sm _ (.tail _ (.head _))⟩) ?_
    rw [hj, Int.toNat_natCast, List.getD_eq_getElem?_getD, hw]
    rfl
  | false =>
    rw [e] at h
    exact finEg h hg fun hg => .subKN h1 h2 hn hk L (hg _ (.head _))
theorem itemR_ok {a : Addr} {xs : List Addr} (L : KL.Ok K a (.refs xs)) (h : itemR xs y k σ₁ o₁ = some (z, σ', o', g)) (hg : ∀ p ∈ g, p) (h1 : EvE prog K f n v σ (.val (.ref a)) σ₀) (h2 : EvE prog K f n s σ₀ y σ₁) (hn : notSlice s = true) (hk : y.i? = some k) : EvE prog K f n (.Subscript v s pos) σ z σ' := by
  unfold itemR at h
  cases e : y.known with
  | true =>
    rw [e] at h
    exact itemKn_ok h fun j w hj hj' hs hw => .subKR h1 h2 hn hk L (by rw [hj]; exact hw) (small_of hj' hs)
  | false =>
    rw [e] at h
    cases o₁ with
    | nil => exact no_ h
    | cons q o₁ =>
      cases q with
      | n j =>
        obtain ⟨hs, h⟩ := tst_some h
        obtain ⟨w, hw, h⟩ := opt_some h
        rw [nth_eq] at hw
        refine finEg h hg fun hg => ?_
        have : k = (j : Int) := hg _ (.head _)
        exact .subKR h1 h2 hn hk L (by rw [this]; exact hw) (small_of (k := k) (j := j) (by rw [this]; rfl) hs)
      | _ => exact no_ h
end
theorem stItem_ok (H : TabOk K T) {x y z : AV} {σ₁ σ' : S} {o₁ o' : Orc} {g : List Prop} {v s : Expr} {pos : Pos} (h : stItem T x y σ₁ o₁ = some (z, σ', o', g)) (hg : ∀ p ∈ g, p) {σ₀ : S} (h1 : EvE prog K f n v σ x σ₀) (h2 : EvE prog K f n s σ₀ y σ₁) (hn : notSlice s = true) : EvE prog K f n (.Subscript v s pos) σ z σ' := by
  cases x with
  | obj i =>
    obtain ⟨ao, ho, h⟩ := opt_some h
    rw [nth_eq] at ho
    cases ao with
    | il xs =>
      obtain ⟨k, hk, h⟩ := opt_some h
      exact itemI_ok h hg h1 h2 hn hk ho
    | list xs =>
      obtain ⟨k, hk, h⟩ := opt_some h
      exact itemL_ok h hg h1 h2 hn hk ho
    | _ => exact no_ h
  | val u =>
    cases u with
    | ref a =>
      have h : (opt (atA a T.lists) fun l => itemT l y σ₁ o₁) = some (z, σ', o', g) := h
      obtain ⟨l, hl, h⟩ := opt_some h
      have L := H.lists _ (atA_mem hl)
      cases l with
      | nums xs =>
        obtain ⟨k, hk, h⟩ := opt_some h
        exact itemN_ok L h hg h1 h2 hn hk
      | refs xs =>
        obtain ⟨k, hk, h⟩ := opt_some h
        exact itemR_ok L h hg h1 h2 hn hk
    | _ => exact no_ h
  | _ => exact no_ h
theorem stSub_ok (HT : TabOk K T) (H : Sound prog K n r) {v s : Expr} {pos : Pos} {z : AV} {σ' : S} {o' : Orc} {g : List Prop} (h : stSub T r f v s σ o = some (z, σ', o', g)) (hg : ∀ p ∈ g, p) : EvE prog K f (n + 1) (.Subscript v s pos) σ z σ' := by
  replace h := tst_some h
  obtain ⟨hn, h⟩ := h
  replace h := bnd_some h
  obtain ⟨x, σ₁, o₁, g1, g2, h1, h, k1⟩ := h
  replace h := bnd_some h
  obtain ⟨y, σ₂, o₂, g3, g4, h2, h, k2⟩ := h
  have k1 := k1 hg
  have k2 := k2 k1.2
  exact stItem_ok HT h k2.2 (H.e' h1 k1.1) (H.e' h2 k2.1) hn
noncomputable def stArgs (r : Ev) (f : Fx) : List Expr → S → Orc → R (List AV)
  | [], σ, o => ret [] σ o
  | e :: es, σ, o => tst (notStar e) (bnd (r.e f e σ o) fun x σ o => bnd (stArgs r f es σ o) fun xs σ o => ret (x :: xs) σ o)
theorem stArgs_ok (H : Sound prog K n r) : ∀ {es : List Expr} {σ : S} {o : Orc} {xs : List AV} {σ' : S} {o' : Orc} {g : List Prop}, stArgs r f es σ o = some (xs, σ', o', g) → (∀ p ∈ g, p) → EvA prog K f (n + 1) es σ xs σ' ∧ ∀ e ∈ es, notStar e = true
  | [], σ, o, xs, σ', o', g, h, hg => by cases h; exact ⟨.nil, fun _ h => nomatch h⟩
  | e :: es, σ, o, xs, σ', o', g, h, hg => by
    replace h := tst_some h
    obtain ⟨hn, h⟩ := h
    replace h := bnd_some h
    obtain ⟨x, σ₁, o₁, g1, g2, h1, h, k1⟩ := h
    replace h := bnd_some h
    obtain ⟨ys, σ₂, o₂, g3, g4, h2, h, k2⟩ := h
    cases h
    have k1 := k1 hg
    have k2 := k2 k1.2
    obtain ⟨A1, A2⟩ := stArgs_ok H h2 k2.1
    refine ⟨.cons hn (H.e' h1 k1.1) A1, fun e' he => ?_⟩
    rcases List.mem_cons.mp he with rfl | he
    · exact hn
    · exact A2 e' he
noncomputable def callK (r : Ev) (fa : Addr) (xs : List AV) (σ : S) (o : Orc) : R AV := match r.c fa xs σ.objs o with
  | none => none
  | some (x, objs', o', g) => some (x, { σ with objs := objs' }, o', g)
theorem callK_ok (H : Sound prog K n r) {fa : Addr} {xs : List AV} {x : AV} {σ' : S} {o' : Orc} {g : List Prop} (h : callK r fa xs σ o = some (x, σ', o', g)) (hg : ∀ p ∈ g, p) :
    ∃ objs', σ' = { σ with objs := objs' } ∧ CallT prog K n fa xs σ.objs x objs' ∧ ∀ P, keepIn (K P) (.ref fa) = true ∧ fnIn (K P) fa = true := by
  unfold callK at h
  cases e : r.c fa xs σ.objs o with
  | none => rw [e] at h; first | exact no_ h | cases h
  | some p =>
    obtain ⟨y, objs', o'', g'⟩ := p
    rw [e] at h
    cases h
    exact ⟨objs', rfl, H.c e hg⟩
noncomputable def plainFun : Expr → Bool
  | .Name .. => true
  | .Subscript .. => true
  | _ => false
theorem call_eq {fe : Expr} {es : List Expr} {pos : Pos} (h : plainFun fe = true) (env : Env) : eval (.Call fe es [] pos) env = (do callWith pos (← eval fe env) [] (backTo pos (starEach es env)) (backToKw pos (keywordEach [] env))) := by
  cases fe <;> first | rfl | exact nb_ h
noncomputable def stCall (r : Ev) (f : Fx) (fe : Expr) (es : List Expr) (σ : S) (o : Orc) : R AV := tst f.fn (tst (plainFun fe) (bnd (r.e f fe σ o) fun x σ o => bnd (stArgs r f es σ o) fun xs σ o => match x with
  | .val (.ref fa) => callK r fa xs σ o
  | .obj k => opt (nth σ.objs k) fun ao => match ao with
    | .meth fa self => callK r fa (self :: xs) σ o
    | _ => none
  | _ => none))
theorem stCall_ok (H : Sound prog K n r) {fe : Expr} {es : List Expr} {pos : Pos} {z : AV} {σ' : S} {o' : Orc} {g : List Prop} (h : stCall r f fe es σ o = some (z, σ', o', g)) (hg : ∀ p ∈ g, p) : EvE prog K f (n + 1) (.Call fe es [] pos) σ z σ' := by
  replace h := tst_some h
  obtain ⟨hf, h⟩ := h
  replace h := tst_some h
  obtain ⟨hp, h⟩ := h
  replace h := bnd_some h
  obtain ⟨x, σ₁, o₁, g1, g2, h1, h, k1⟩ := h
  replace h := bnd_some h
  obtain ⟨xs, σ₂, o₂, g3, g4, h2, h, k2⟩ := h
  have k1 := k1 hg
  have k2 := k2 k1.2
  have E1 := H.e' h1 k1.1
  obtain ⟨A1, A2⟩ := stArgs_ok H h2 k2.1
  cases x <;> first | exact no_ h | (cases h; done) | skip
  · replace h := opt_some h
    obtain ⟨ao, ho, h⟩ := h
    rw [nth_eq] at ho
    cases ao <;> first | exact no_ h | (cases h; done) | skip
    obtain ⟨objs', e, c, hk⟩ := callK_ok H h k2.2
    rw [e]
    exact .callBound hf E1 A2 (call_eq hp) A1 ho (fun P => (hk P).2) c
  · rename_i u
    cases u <;> first | exact no_ h | (cases h; done) | skip
    obtain ⟨objs', e, c, hk⟩ := callK_ok H h k2.2
    rw [e]
    exact .callFn hf E1 A2 (call_eq hp) A1 (fun P => (hk P).1) c
noncomputable def stMeth (T : Tab) (r : Ev) (f : Fx) (y name : Str) (apos : Pos) (es : List Expr) (pos : Pos) (σ : S) (o : Orc) : R AV := tst f.fn (tst (Nat.blt es.length 29 && Nat.beq apos.endLine pos.line) (bnd (stName T f y σ o) fun x σ o => opt (objI x) fun i => opt (instAt T.C σ i) fun p =>
  match look name p.2 with
  | some _ => none
  | none => opt (look name T.meths) fun fa => bnd (stArgs r f es σ o) fun xs σ o => callK r fa (.obj i :: xs) σ o))
theorem stMeth_ok (HT : TabOk K T) (H : Sound prog K n r) {y name : Str} {np apos pos : Pos} {es : List Expr} {z : AV} {σ' : S} {o' : Orc} {g : List Prop} (h : stMeth T r f y name apos es pos σ o = some (z, σ', o', g)) (hg : ∀ p ∈ g, p) : EvE prog K f (n + 1) (.Call (.Attribute (.Name y np) name apos) es [] pos) σ z σ' := by
  replace h := tst_some h
  obtain ⟨hf, h⟩ := h
  replace h := tst_some h
  obtain ⟨hp, h⟩ := h
  replace h := bnd_some h
  obtain ⟨x, σ₁, o₁, g1, g2, h1, h, k1⟩ := h
  replace h := opt_some h
  obtain ⟨i, hi, h⟩ := h
  replace h := opt_some h
  obtain ⟨⟨j, as⟩, hj, h⟩ := h
  obtain ⟨ho, ha⟩ := instAt_of hj
  have E1 := stName_ok (prog := prog) (n := n + 1) (pos := np) HT h1
  rw [objI_of hi] at E1
  dsimp only at h
  cases e : look name as with
  | some _ => rw [e] at h; first | exact no_ h | cases h
  | none =>
    rw [e] at h
    replace h := opt_some h
    obtain ⟨fa, hfa, h⟩ := h
    replace h := bnd_some h
    obtain ⟨xs, σ₂, o₂, g3, g4, h2, h, k2⟩ := h
    have k1 := k1 hg
    have k2 := k2 k1.2
    obtain ⟨A1, A2⟩ := stArgs_ok H h2 k2.1
    obtain ⟨objs', e', c, hk⟩ := callK_ok H h k2.2
    rw [e']
    obtain ⟨hp1, hp2⟩ := Bool.and_eq_true_iff.mp hp
    have hl : es.length < 29 := Nat.lt_of_lt_of_le (Nat.lt_succ_self _) (Nat.le_of_ble_eq_true hp1)
    exact .callMeth hf E1 A2 _ (fun env => meth_eq A2 hl (by rw [Nat.eq_of_beq_eq_true hp2]; exact beq_self_eq_true _)) ho ha e (HT.meths _ (look_mem hfa)) A1 (fun P => (hk P).1) c
noncomputable def stAttrD (T : Tab) (f : Fx) (v : Expr) (x : Str) (σ : S) (o : Orc) : R AV := match v with
  | .Name y _ => stAttr T f y x σ o
  | _ => none
noncomputable def stCmpD (r : Ev) (f : Fx) (l : Expr) (ops : List CmpOp) (es : List Expr) (σ : S) (o : Orc) : R AV := match ops, es with
  | [op], [e] => stCmp r f op l e σ o
  | _, _ => none
noncomputable def stIte (r : Ev) (f : Fx) (t a b : Expr) (σ : S) (o : Orc) : R AV := bnd (r.t f t σ o) fun x σ o => match x with
  | true => r.e f a σ o
  | false => r.e f b σ o
noncomputable def stMethD (T : Tab) (r : Ev) (f : Fx) (v : Expr) (name : Str) (apos : Pos) (es : List Expr) (pos : Pos) (σ : S) (o : Orc) : R AV := match v with
  | .Name y _ => stMeth T r f y name apos es pos σ o
  | _ => none
noncomputable def stCallD (T : Tab) (r : Ev) (f : Fx) (fe : Expr) (es : List Expr) (pos : Pos) (σ : S) (o : Orc) : R AV := match fe with
  | .Attribute v name apos => stMethD T r f v name apos es pos σ o
  | fe => stCall r f fe es σ o
noncomputable def stE (T : Tab) (r : Ev) (f : Fx) (e : Expr) (σ : S) (o : Orc) : R AV := match e with
  | .Constant c _ _ => stConst c σ o
  | .Name x _ => stName T f x σ o
  | .Attribute v x _ => stAttrD T f v x σ o
  | .BinOp l op e _ => stBin r f op l e σ o
  | .UnaryOp op e _ => stUn r f op e σ o
  | .Compare l ops es _ => stCmpD r f l ops es σ o
  | .IfExp t a b _ => stIte r f t a b σ o
  | .Subscript v s _ => stSub T r f v s σ o
  | .Call fe es ks pos => match ks with
    | [] => stCallD T r f fe es pos σ o
    | _ :: _ => none
  | _ => none
theorem stAttrD_ok (HT : TabOk K T) {v : Expr} {x : Str} {pos : Pos} {z : AV} {σ' : S} {o' : Orc} {g : List Prop} (h : stAttrD T f v x σ o = some (z, σ', o', g)) : EvE prog K f (n + 1) (.Attribute v x pos) σ z σ' := by
  cases v with
  | Name y _ => exact stAttr_ok HT h
  | _ => exact no_ h
theorem stCmpD_ok (H : Sound prog K n r) {l : Expr} {ops : List CmpOp} {es : List Expr} {pos : Pos} {z : AV} {σ' : S} {o' : Orc} {g : List Prop} (h : stCmpD r f l ops es σ o = some (z, σ', o', g)) (hg : ∀ p ∈ g, p) : EvE prog K f (n + 1) (.Compare l ops es pos) σ z σ' := by
  rcases ops with _ | ⟨op, _ | ⟨op', ops⟩⟩
  · exact no_ h
  · rcases es with _ | ⟨e, _ | ⟨e', es⟩⟩
    · exact no_ h
    · obtain ⟨x, y, σ₁, h1, h2, h3, h4⟩ := stCmp_ok H h hg
      exact .cmp h1 h2 h3 h4
    · exact no_ h
  · exact no_ h
theorem stIte_ok (H : Sound prog K n r) {t a b : Expr} {pos : Pos} {z : AV} {σ' : S} {o' : Orc} {g : List Prop} (h : stIte r f t a b σ o = some (z, σ', o', g)) (hg : ∀ p ∈ g, p) : EvE prog K f (n + 1) (.IfExp t a b pos) σ z σ' := by
  obtain ⟨x, σ₁, o₁, g1, g2, h1, h, k1⟩ := bnd_some h
  have k1 := k1 hg
  refine .ite (H.t' h1 k1.1) ?_
  cases x with
  | true => exact H.e' h k1.2
  | false => exact H.e' h k1.2
theorem stMethD_ok (HT : TabOk K T) (H : Sound prog K n r) {v : Expr} {name : Str} {apos pos : Pos} {es : List Expr} {z : AV} {σ' : S} {o' : Orc} {g : List Prop} (h : stMethD T r f v name apos es pos σ o = some (z, σ', o', g)) (hg : ∀ p ∈ g, p) : EvE prog K f (n + 1) (.Call (.Attribute v name apos) es [] pos) σ z σ' := by
  cases v with
  | Name y _ => exact stMeth_ok HT H h hg
  | _ => exact no_ h
theorem stCallD_ok (HT : TabOk K T) (H : Sound prog K n r) {fe : Expr} {es : List Expr} {pos : Pos} {z : AV} {σ' : S} {o' : Orc} {g : List Prop} (h : stCallD T r f fe es pos σ o = some (z, σ', o', g)) (hg : ∀ p ∈ g, p) : EvE prog K f (n + 1) (.Call fe es [] pos) σ z σ' := by
  cases fe with
  | Attribute v name apos => exact stMethD_ok HT H h hg
  | _ => exact stCall_ok H h hg
theorem stE_ok (HT : TabOk K T) (H : Sound prog K n r) {e : Expr} {z : AV} {σ' : S} {o' : Orc} {g : List Prop} (h : stE T r f e σ o = some (z, σ', o', g)) (hg : ∀ p ∈ g, p) : EvE prog K f (n + 1) e σ z σ' := by
  cases e with
  | Constant => exact stConst_ok h
  | Name => exact stName_ok HT h
  | Attribute => exact stAttrD_ok HT h
  | BinOp => exact stBin_ok H h hg
  | UnaryOp => exact stUn_ok H h hg
  | Compare => exact stCmpD_ok H h hg
  | IfExp => exact stIte_ok H h hg
  | Subscript => exact stSub_ok HT H h hg
  | Call fe es ks pos =>
    cases ks with
    | nil => exact stCallD_ok HT H h hg
    | cons => exact no_ h
  | _ => exact no_ h
noncomputable def stAnd (r : Ev) (f : Fx) : List Expr → S → Orc → R Bool
  | [], σ, o => ret true σ o
  | e :: es, σ, o => bnd (r.t f e σ o) fun x σ o => match x with
    | true => stAnd r f es σ o
    | false => ret false σ o
theorem stAnd_ok (H : Sound prog K n r) {pos : Pos} : ∀ {es : List Expr} {σ : S} {o : Orc} {x : Bool} {σ' : S} {o' : Orc} {g : List Prop}, stAnd r f es σ o = some (x, σ', o', g) → (∀ p ∈ g, p) → EvT prog K f (n + 1) (.BoolOp .And es pos) σ x σ'
  | [], σ, o, x, σ', o', g, h, hg => by cases h; exact .and_nil
  | e :: es, σ, o, x, σ', o', g, h, hg => by
    replace h := bnd_some h
    obtain ⟨y, σ₁, o₁, g1, g2, h1, h, k1⟩ := h
    have k1 := k1 hg
    cases y with
    | true => exact .and_t (H.t' h1 k1.1) (stAnd_ok H h k1.2)
    | false => cases h; exact .and_f (H.t' h1 k1.1)
noncomputable def stOr (r : Ev) (f : Fx) : List Expr → S → Orc → R Bool
  | [], σ, o => ret false σ o
  | e :: es, σ, o => bnd (r.t f e σ o) fun x σ o => match x with
    | false => stOr r f es σ o
    | true => ret true σ o
theorem stOr_ok (H : Sound prog K n r) {pos : Pos} : ∀ {es : List Expr} {σ : S} {o : Orc} {x : Bool} {σ' : S} {o' : Orc} {g : List Prop}, stOr r f es σ o = some (x, σ', o', g) → (∀ p ∈ g, p) → EvT prog K f (n + 1) (.BoolOp .Or es pos) σ x σ'
  | [], σ, o, x, σ', o', g, h, hg => by cases h; exact .or_nil
  | e :: es, σ, o, x, σ', o', g, h, hg => by
    replace h := bnd_some h
    obtain ⟨y, σ₁, o₁, g1, g2, h1, h, k1⟩ := h
    have k1 := k1 hg
    cases y with
    | false => exact .or_f (H.t' h1 k1.1) (stOr_ok H h k1.2)
    | true => cases h; exact .or_t (H.t' h1 k1.1)
noncomputable def stPl (r : Ev) (f : Fx) (e : Expr) (σ : S) (o : Orc) : R Bool := tst (plainTest e) (bnd (r.e f e σ o) fun x σ o => stTruth x σ o)
theorem stPl_ok (H : Sound prog K n r) {e : Expr} {z : Bool} {σ' : S} {o' : Orc} {g : List Prop} (h : stPl r f e σ o = some (z, σ', o', g)) (hg : ∀ p ∈ g, p) : EvT prog K f (n + 1) e σ z σ' := by
  obtain ⟨hp, h⟩ := tst_some h
  obtain ⟨y, σ₁, o₁, g1, g2, h1, h, k1⟩ := bnd_some h
  obtain ⟨⟨k, ht⟩, rfl⟩ := stTruth_ok h (k1 hg).2
  exact .plain hp (H.e' h1 (k1 hg).1) ht
noncomputable def stNot (r : Ev) (f : Fx) (op : UnaryOp) (e : Expr) (p : Pos) (σ : S) (o : Orc) : R Bool := match op with
  | .Not => bnd (r.t f e σ o) fun x σ o => ret (!x) σ o
  | op => stPl r f (.UnaryOp op e p) σ o
noncomputable def stBool (r : Ev) (f : Fx) (op : BoolOp) (es : List Expr) (σ : S) (o : Orc) : R Bool := match op with
  | .And => stAnd r f es σ o
  | .Or => stOr r f es σ o
noncomputable def stCmpT (r : Ev) (f : Fx) (l : Expr) (ops : List CmpOp) (es : List Expr) (p : Pos) (σ : S) (o : Orc) : R Bool := match ops, es with
  | [op], [e] => bnd (stCmp r f op l e σ o) fun x σ o => stTruth x σ o
  | ops, es => stPl r f (.Compare l ops es p) σ o
noncomputable def stTst (r : Ev) (f : Fx) (e : Expr) (σ : S) (o : Orc) : R Bool := match e with
  | .UnaryOp op e p => stNot r f op e p σ o
  | .BoolOp op es _ => stBool r f op es σ o
  | .Compare l ops es p => stCmpT r f l ops es p σ o
  | e => stPl r f e σ o
theorem stCmpT_ok (H : Sound prog K n r) {l : Expr} {ops : List CmpOp} {es : List Expr} {p : Pos} {z : Bool} {σ' : S} {o' : Orc} {g : List Prop} (h : stCmpT r f l ops es p σ o = some (z, σ', o', g)) (hg : ∀ p ∈ g, p) : EvT prog K f (n + 1) (.Compare l ops es p) σ z σ' := by
  rcases ops with _ | ⟨op, _ | ⟨op', ops⟩⟩
  · exact stPl_ok H h hg
  · rcases es with _ | ⟨e, _ | ⟨e', es⟩⟩
    · exact stPl_ok H h hg
    · obtain ⟨y, σ₁, o₁, g1, g2, h1, h, k1⟩ := bnd_some h
      obtain ⟨x, y', σ₂, e1, e2, e3, e4⟩ := stCmp_ok H h1 (k1 hg).1
      obtain ⟨⟨k, ht⟩, rfl⟩ := stTruth_ok h (k1 hg).2
      exact .cmp e1 e2 e3 e4 ht
    · exact stPl_ok H h hg
  · exact stPl_ok H h hg
theorem stNot_ok (H : Sound prog K n r) {op : UnaryOp} {e : Expr} {p : Pos} {z : Bool} {σ' : S} {o' : Orc} {g : List Prop} (h : stNot r f op e p σ o = some (z, σ', o', g)) (hg : ∀ p ∈ g, p) : EvT prog K f (n + 1) (.UnaryOp op e p) σ z σ' := by
  cases op with
  | Not =>
    have h : bnd (r.t f e σ o) (fun x σ o => ret (!x) σ o) = some (z, σ', o', g) := h
    obtain ⟨y, σ₁, o₁, g1, g2, h1, h, k1⟩ := bnd_some h
    cases h
    exact .not (H.t' h1 (k1 hg).1)
  | _ => exact stPl_ok H h hg
theorem stTst_ok (H : Sound prog K n r) {e : Expr} {z : Bool} {σ' : S} {o' : Orc} {g : List Prop} (h : stTst r f e σ o = some (z, σ', o', g)) (hg : ∀ p ∈ g, p) : EvT prog K f (n + 1) e σ z σ' := by
  cases e with
  | UnaryOp op e p =>
    exact stNot_ok H h hg
  | BoolOp op es p =>
    cases op with
    | And => exact stAnd_ok H h hg
    | Or => exact stOr_ok H h hg
  | Compare => exact stCmpT_ok H h hg
  | _ => exact stPl_ok H h hg
end
section
variable {prog : Program} {K : Params → Frag} {T : Tab} {n : Nat} {r : Ev} {f : Fx} {σ : S} {o : Orc}
noncomputable def cellSt (av : AV) (i : Nat) (σ : S) (o : Orc) : R Out := opt (nth σ.objs i) fun ao => match ao with
  | .cell _ => ret .next { σ with objs := upd σ.objs i (.cell (some av)) } o
  | _ => none
noncomputable def nameSt (f : Fx) (x : Str) (av : AV) (σ : S) (o : Orc) : R Out := opt (look x f.cs.names) fun k => match k with
  | .local => opt (setLoc x av σ.locs) fun l => ret .next { σ with locs := l } o
  | .cell => opt (look x σ.cells) fun i => cellSt av i σ o
  | _ => none
noncomputable def attrSt (T : Tab) (f : Fx) (y x : Str) (av : AV) (σ : S) (o : Orc) : R Out := bnd (stName T f y σ o) fun w σ o => opt (objI w) fun i => opt (instAt T.C σ i) fun p =>
    tst (has x T.own) (tst (Nat.ble p.2.length 900) (ret .next { σ with objs := upd σ.objs p.1 (.attrs (setA x av p.2)) } o))
noncomputable def ilSt (av y w : AV) (σ : S) (o : Orc) : R Out := opt (objI w) fun j => opt (nth σ.objs j) fun ao => match ao with
  | .il xs => opt av.i? fun z => opt y.i? fun k => some (.next, { σ with objs := upd σ.objs j (.il (xs.set k.toNat z)) }, o, [InB xs.length k])
  | _ => none
noncomputable def attrStD (T : Tab) (r : Ev) (f : Fx) (a : Expr) (x : Str) (v : Expr) (σ : S) (o : Orc) : R Out := match a with
  | .Name y _ => bnd (r.e f v σ o) fun av σ o => attrSt T f y x av σ o
  | _ => none
noncomputable def stAssignT (T : Tab) (r : Ev) (f : Fx) (t v : Expr) (σ : S) (o : Orc) : R Out := match t with
  | .Name x _ => tst f.fn (bnd (r.e f v σ o) fun av σ o => nameSt f x av σ o)
  | .Attribute a x _ => attrStD T r f a x v σ o
  | .Subscript a s _ => bnd (r.e f v σ o) fun av σ o => bnd (r.e f a σ o) fun w σ o => bnd (r.e f s σ o) fun y σ o => ilSt av y w σ o
  | _ => none
noncomputable def stAssign (T : Tab) (r : Ev) (f : Fx) (t v : Expr) (σ : S) (o : Orc) : R Out := tst (notComp v) (stAssignT T r f t v σ o)
theorem ilSt_ok {a s v : Expr} {tp pos : Pos} {av y w : AV} {σ₁ σ₂ σ₃ : S} {z : Out} {σ' : S} {o' : Orc} {g : List Prop} (hc : notComp v = true) (E1 : EvE prog K f (n + 1) v σ av σ₁) (E2 : EvE prog K f (n + 1) a σ₁ w σ₂) (E3 : EvE prog K f (n + 1) s σ₂ y σ₃) (h : ilSt av y w σ₃ o = some (z, σ', o', g)) (hg : ∀ p ∈ g, p) : EvS prog K f (n + 1) (.Assign [.Subscript a s tp] v pos) σ z σ' := by
  obtain ⟨j, hj, h⟩ := opt_some h
  obtain ⟨ao, ho, h⟩ := opt_some h
  rw [nth_eq] at ho
  cases ao with
  | il xs =>
    obtain ⟨z', hz, h⟩ := opt_some h
    obtain ⟨k, hk, h⟩ := opt_some h
    rw [objI_of hj] at E2
    refine finSg h hg fun hg => ?_
    rw [upd_eq]
    exact .setI E1 E2 E3 hz hk ho (hg _ (.head _)) fun _ => swaps_plain hc
  | _ => exact no_ h
theorem nameSt_ok {x : Str} {v : Expr} {tp pos : Pos} {av : AV} {σ₁ : S} {z : Out} {σ' : S} {o' : Orc} {g : List Prop} (hf : f.fn = true) (hc : notComp v = true) (E1 : EvE prog K f n v σ av σ₁) (h : nameSt f x av σ₁ o = some (z, σ', o', g)) : EvS prog K f n (.Assign [.Name x tp] v pos) σ z σ' := by
  obtain ⟨k, hk, h⟩ := opt_some h
  cases k with
  | «local» =>
    obtain ⟨l, hl, h⟩ := opt_some h
    exact finS h (.assignL hf E1 hl hk fun _ => swaps_plain hc)
  | cell =>
    obtain ⟨i, hi, h⟩ := opt_some h
    obtain ⟨ao, ho, h⟩ := opt_some h
    rw [nth_eq] at ho
    cases ao with
    | cell =>
      refine finS h ?_
      rw [upd_eq]
      exact .assignC E1 hi ho hk fun _ _ => swaps_plain hc
    | _ => exact no_ h
  | _ => exact no_ h
theorem attrStD_ok (HT : TabOk K T) (H : Sound prog K n r) {a v : Expr} {x : Str} {tp pos : Pos} {z : Out} {σ' : S} {o' : Orc} {g : List Prop} (hc : notComp v = true) (h : attrStD T r f a x v σ o = some (z, σ', o', g)) (hg : ∀ p ∈ g, p) : EvS prog K f (n + 1) (.Assign [.Attribute a x tp] v pos) σ z σ' := by
  cases a with
  | Name y np =>
    obtain ⟨av, σ₁, o₁, g1, g2, h1, h, k1⟩ := bnd_some h
    obtain ⟨w, σ₂, o₂, g3, g4, h2, h, k2⟩ := bnd_some h
    obtain ⟨i, hi, h⟩ := opt_some h
    obtain ⟨⟨j, as⟩, hj, h⟩ := opt_some h
    obtain ⟨hw, h⟩ := tst_some h
    obtain ⟨hl, h⟩ := tst_some h
    obtain ⟨ho, ha⟩ := instAt_of hj
    have E2 := stName_ok (prog := prog) (n := n + 1) (pos := np) HT h2
    rw [objI_of hi] at E2
    refine finS h ?_
    rw [upd_eq]
    exact .setAttr (H.e' h1 (k1 hg).1) E2 ho ha (HT.own _ (has_mem hw)).2 (Nat.le_of_ble_eq_true hl) fun _ => swaps_plain hc
  | _ => exact no_ h
theorem stAssign_ok (HT : TabOk K T) (H : Sound prog K n r) {t v : Expr} {pos : Pos} {z : Out} {σ' : S} {o' : Orc} {g : List Prop} (h : stAssign T r f t v σ o = some (z, σ', o', g)) (hg : ∀ p ∈ g, p) : EvS prog K f (n + 1) (.Assign [t] v pos) σ z σ' := by
  obtain ⟨hc, h⟩ := tst_some h
  cases t with
  | Name x tp =>
    obtain ⟨hf, h⟩ := tst_some h
    obtain ⟨av, σ₁, o₁, g1, g2, h1, h, k1⟩ := bnd_some h
    exact nameSt_ok hf hc (H.e' h1 (k1 hg).1) h
  | Attribute => exact attrStD_ok HT H hc h hg
  | Subscript a s tp =>
    obtain ⟨av, σ₁, o₁, g1, g2, h1, h, k1⟩ := bnd_some h
    obtain ⟨w, σ₂, o₂, g3, g4, h2, h, k2⟩ := bnd_some h
    obtain ⟨y, σ₃, o₃, g5, g6, h3, h, k3⟩ := bnd_some h
    have k1 := k1 hg
    have k2 := k2 k1.2
    have k3 := k3 k2.2
    exact ilSt_ok hc (H.e' h1 k1.1) (H.e' h2 k2.1) (H.e' h3 k3.1) h k3.2
  | _ => exact no_ h
noncomputable def augLoc (r : Ev) (f : Fx) (x : Str) (op : Operator) (v : Expr) (σ : S) (o : Orc) : R Out := opt (look x σ.locs) fun u => opt u fun old => bnd (r.e f v σ o) fun y σ o => opt (opV op old y) fun p => opt (setLoc x p.1 σ.locs) fun l => some (.next, { σ with locs := l }, o, p.2)
noncomputable def augName (r : Ev) (f : Fx) (x : Str) (op : Operator) (v : Expr) (σ : S) (o : Orc) : R Out := tst f.fn (opt (look x f.cs.names) fun k => match k with
  | .local => augLoc r f x op v σ o
  | _ => none)
noncomputable def augAttr (T : Tab) (r : Ev) (f : Fx) (y x : Str) (op : Operator) (v : Expr) (σ : S) (o : Orc) : R Out := tst (has x T.own) (bnd (stName T f y σ o) fun w σ o => opt (objI w) fun i => opt (instAt T.C σ i) fun p => opt (look x p.2) fun old => tst (hand old) (bnd (r.e f v σ o) fun z σ o =>
      opt (opV op old z) fun q => opt (instAt T.C σ i) fun p' => tst (Nat.beq p'.1 p.1) (tst (Nat.ble p'.2.length 900) (some (.next, { σ with objs := upd σ.objs p'.1 (.attrs (setA x q.1 p'.2)) }, o, q.2)))))
noncomputable def augAttrD (T : Tab) (r : Ev) (f : Fx) (a : Expr) (x : Str) (op : Operator) (v : Expr) (σ : S) (o : Orc) : R Out := match a with
  | .Name y _ => augAttr T r f y x op v σ o
  | _ => none
noncomputable def stAug (T : Tab) (r : Ev) (f : Fx) (t : Expr) (op : Operator) (v : Expr) (σ : S) (o : Orc) : R Out := match t with
  | .Name x _ => augName r f x op v σ o
  | .Attribute a x _ => augAttrD T r f a x op v σ o
  | _ => none
theorem augName_ok (H : Sound prog K n r) {x : Str} {v : Expr} {op : Operator} {tp pos : Pos} {z : Out} {σ' : S} {o' : Orc} {g : List Prop} (h : augName r f x op v σ o = some (z, σ', o', g)) (hg : ∀ p ∈ g, p) : EvS prog K f (n + 1) (.AugAssign (.Name x tp) op v pos) σ z σ' := by
  obtain ⟨hf, h⟩ := tst_some h
  obtain ⟨k, hk, h⟩ := opt_some h
  cases k with
  | «local» =>
    obtain ⟨u, hu, h⟩ := opt_some h
    obtain ⟨old, hold, h⟩ := opt_some h
    obtain ⟨y, σ₁, o₁, g1, g2, h1, h, k1⟩ := bnd_some h
    obtain ⟨⟨nw, gs⟩, hn, h⟩ := opt_some h
    obtain ⟨l, hl, h'⟩ := opt_some h
    have k1 := k1 hg
    subst hold
    exact finSg h' k1.2 fun hgs => .augL hf hu (H.e' h1 k1.1) hn hgs hl hk
  | _ => exact no_ h
theorem augAttr_ok (HT : TabOk K T) (H : Sound prog K n r) {y x : Str} {v : Expr} {op : Operator} {np tp pos : Pos} {z : Out} {σ' : S} {o' : Orc} {g : List Prop} (h : augAttr T r f y x op v σ o = some (z, σ', o', g)) (hg : ∀ p ∈ g, p) : EvS prog K f (n + 1) (.AugAssign (.Attribute (.Name y np) x tp) op v pos) σ z σ' := by
  obtain ⟨hw, h⟩ := tst_some h
  obtain ⟨w, σ₂, o₂, g3, g4, h2, h, k2⟩ := bnd_some h
  obtain ⟨i, hi, h⟩ := opt_some h
  obtain ⟨⟨j, as⟩, hj, h⟩ := opt_some h
  obtain ⟨old, hold, h⟩ := opt_some h
  obtain ⟨hh, h⟩ := tst_some h
  obtain ⟨z', σ₁, o₁, g1, g2, h1, h, k1⟩ := bnd_some h
  obtain ⟨⟨nw, gs⟩, hn, h⟩ := opt_some h
  obtain ⟨⟨j', as'⟩, hj', h⟩ := opt_some h
  obtain ⟨hjj, h⟩ := tst_some h
  obtain ⟨hl, h'⟩ := tst_some h
  have hjj : j' = j := Nat.eq_of_beq_eq_true hjj
  subst hjj
  have k2 := k2 hg
  have k1 := k1 k2.2
  obtain ⟨ho, ha⟩ := instAt_of hj
  obtain ⟨ho', ha'⟩ := instAt_of hj'
  have E2 := stName_ok (prog := prog) (n := n + 1) (pos := np) HT h2
  rw [objI_of hi] at E2
  refine finSg h' k1.2 fun hgs => ?_
  rw [upd_eq]
  exact .augAttr E2 ho ha (HT.own _ (has_mem hw)).1 hold hh (H.e' h1 k1.1) (fun w A as a b s Q E => opV_inplace hn hgs w A as a b s Q E) ho' ha' (HT.own _ (has_mem hw)).2 (Nat.le_of_ble_eq_true hl)
theorem stAug_ok (HT : TabOk K T) (H : Sound prog K n r) {t v : Expr} {op : Operator} {pos : Pos} {z : Out} {σ' : S} {o' : Orc} {g : List Prop} (h : stAug T r f t op v σ o = some (z, σ', o', g)) (hg : ∀ p ∈ g, p) : EvS prog K f (n + 1) (.AugAssign t op v pos) σ z σ' := by
  cases t with
  | Name => exact augName_ok H h hg
  | Attribute a x p =>
    cases a with
    | Name => exact augAttr_ok HT H h hg
    | _ => exact no_ h
  | _ => exact no_ h
noncomputable def askS (prog : Program) (K : Params → Frag) (n : Nat) (f : Fx) (st : Stmt) (σ : S) (o : Orc) : R Out := match o with
  | q :: o' => match q with
    | .s z σ' => some (z, σ', o', [EvS prog K f n st σ z σ'])
    | _ => none
  | [] => none
theorem askS_ok {st : Stmt} {z : Out} {σ' : S} {o' : Orc} {g : List Prop} (h : askS prog K n f st σ o = some (z, σ', o', g)) (hg : ∀ p ∈ g, p) : EvS prog K f n st σ z σ' := by
  cases o with
  | nil => exact no_ h
  | cons q o =>
    cases q with
    | s x σ₂ => cases h; exact hg _ (.head _)
    | _ => exact no_ h
noncomputable def stRet (r : Ev) (f : Fx) (v : Option Expr) (σ : S) (o : Orc) : R Out := match v with
  | some e => bnd (r.e f e σ o) fun x σ o => ret (.ret x) σ o
  | none => none
noncomputable def stAsgs (T : Tab) (r : Ev) (f : Fx) (ts : List Expr) (v : Expr) (σ : S) (o : Orc) : R Out := match ts with
  | [t] => stAssign T r f t v σ o
  | _ => none
noncomputable def stIf (r : Ev) (f : Fx) (t : Expr) (a b : List Stmt) (σ : S) (o : Orc) : R Out := bnd (r.t f t σ o) fun x σ o => match x with
  | true => r.b f a σ o
  | false => r.b f b σ o
noncomputable def stEx (r : Ev) (f : Fx) (e : Expr) (σ : S) (o : Orc) : R Out := tst (notComp e) (bnd (r.e f e σ o) fun _ σ o => ret .next σ o)
noncomputable def stS (prog : Program) (K : Params → Frag) (n : Nat) (T : Tab) (r : Ev) (f : Fx) (st : Stmt) (σ : S) (o : Orc) : R Out := match st with
  | .Expr e _ => stEx r f e σ o
  | .Pass _ => ret .next σ o
  | .Continue _ => ret .cont σ o
  | .Return v _ => stRet r f v σ o
  | .Assign ts v _ => stAsgs T r f ts v σ o
  | .AugAssign t op v _ => stAug T r f t op v σ o
  | .If t a b _ => stIf r f t a b σ o
  | .For a b c d e => askS prog K n f (.For a b c d e) σ o
  | .While a b c d => askS prog K n f (.While a b c d) σ o
  | _ => none
theorem stEx_ok (H : Sound prog K n r) {e : Expr} {p : Pos} {z : Out} {σ' : S} {o' : Orc} {g : List Prop} (h : stEx r f e σ o = some (z, σ', o', g)) (hg : ∀ p ∈ g, p) : EvS prog K f (n + 1) (.Expr e p) σ z σ' := by
  obtain ⟨hc, h⟩ := tst_some h
  obtain ⟨y, σ₁, o₁, g1, g2, h1, h, k1⟩ := bnd_some h
  exact finS h (.expr (H.e' h1 (k1 hg).1) fun _ => swaps_plain hc)
theorem stIf_ok (H : Sound prog K n r) {t : Expr} {a b : List Stmt} {p : Pos} {z : Out} {σ' : S} {o' : Orc} {g : List Prop} (h : stIf r f t a b σ o = some (z, σ', o', g)) (hg : ∀ p ∈ g, p) : EvS prog K f (n + 1) (.If t a b p) σ z σ' := by
  obtain ⟨x, σ₁, o₁, g1, g2, h1, h, k1⟩ := bnd_some h
  have k1 := k1 hg
  refine .ite (H.t' h1 k1.1) ?_
  cases x with
  | true => exact H.b' h k1.2
  | false => exact H.b' h k1.2
theorem stRet_ok (H : Sound prog K n r) {v : Option Expr} {p : Pos} {z : Out} {σ' : S} {o' : Orc} {g : List Prop} (h : stRet r f v σ o = some (z, σ', o', g)) (hg : ∀ p ∈ g, p) : EvS prog K f (n + 1) (.Return v p) σ z σ' := by
  cases v with
  | none => exact no_ h
  | some e =>
    have h : bnd (r.e f e σ o) (fun x σ o => ret (.ret x) σ o) = some (z, σ', o', g) := h
    obtain ⟨y, σ₁, o₁, g1, g2, h1, h, k1⟩ := bnd_some h
    exact finS h (.ret (H.e' h1 (k1 hg).1))
theorem stAsgs_ok (HT : TabOk K T) (H : Sound prog K n r) {ts : List Expr} {v : Expr} {p : Pos} {z : Out} {σ' : S} {o' : Orc} {g : List Prop} (h : stAsgs T r f ts v σ o = some (z, σ', o', g)) (hg : ∀ p ∈ g, p) : EvS prog K f (n + 1) (.Assign ts v p) σ z σ' := by
  rcases ts with _ | ⟨t, _ | ⟨t', ts⟩⟩
  · exact no_ h
  · exact stAssign_ok HT H h hg
  · exact no_ h
theorem stS_ok (HT : TabOk K T) (H : Sound prog K n r) {st : Stmt} {z : Out} {σ' : S} {o' : Orc} {g : List Prop} (h : stS prog K (n + 1) T r f st σ o = some (z, σ', o', g)) (hg : ∀ p ∈ g, p) : EvS prog K f (n + 1) st σ z σ' := by
  cases st with
  | Expr => exact stEx_ok H h hg
  | Pass => cases h; exact .pass
  | Continue => cases h; exact .cont
  | Return => exact stRet_ok H h hg
  | Assign => exact stAsgs_ok HT H h hg
  | AugAssign => exact stAug_ok HT H h hg
  | If => exact stIf_ok H h hg
  | For => exact askS_ok h hg
  | While => exact askS_ok h hg
  | _ => exact no_ h
noncomputable def isNext : Out → Bool
  | .next => true
  | _ => false
noncomputable def stB (prog : Program) (K : Params → Frag) (n : Nat) (T : Tab) (r : Ev) (f : Fx) : List Stmt → S → Orc → R Out
  | [], σ, o => ret .next σ o
  | st :: rest, σ, o => bnd (stS prog K n T r f st σ o) fun z σ o => match isNext z with
    | true => stB prog K n T r f rest σ o
    | false => ret z σ o
theorem stB_ok (HT : TabOk K T) (H : Sound prog K n r) : ∀ {b : List Stmt} {σ : S} {o : Orc} {z : Out} {σ' : S} {o' : Orc} {g : List Prop}, stB prog K (n + 1) T r f b σ o = some (z, σ', o', g) → (∀ p ∈ g, p) → EvB prog K f (n + 1) b σ z σ'
  | [], σ, o, z, σ', o', g, h, hg => by cases h; exact .nil
  | st :: rest, σ, o, z, σ', o', g, h, hg => by
    replace h := bnd_some h
    obtain ⟨y, σ₁, o₁, g1, g2, h1, h, k1⟩ := h
    have k1 := k1 hg
    have E1 := stS_ok HT H h1 k1.1
    cases e : isNext y with
    | true =>
      rw [e] at h
      have : y = .next := by cases y <;> first | rfl | cases e
      rw [this] at E1
      exact .cons E1 (stB_ok HT H h k1.2)
    | false =>
      rw [e] at h
      cases h
      exact .stop E1 fun q => by rw [q] at e; cases e
noncomputable def retOf : Out → AV
  | .ret v => v
  | _ => .val .none
noncomputable def stC (T : Tab) (r : Ev) (fa : Addr) (args : List AV) (objs : List AO) (o : Orc) : Option (AV × List AO × Orc × List Prop) := opt (fnAt fa T.fns) fun F => tst (Nat.beq args.length F.xs.length) (match r.b ⟨F.cs, true⟩ F.body ⟨objs, locs0 F.xs args F.rest, []⟩ o with
  | none => none
  | some (z, σ', o', g) => some (retOf z, σ'.objs, o', g))
theorem stC_ok (HT : TabOk K T) (H : Sound prog K n r) {fa : Addr} {args : List AV} {objs objs' : List AO} {x : AV} {o' : Orc} {g : List Prop} (h : stC T r fa args objs o = some (x, objs', o', g)) (hg : ∀ p ∈ g, p) : CallT prog K n fa args objs x objs' ∧ ∀ P, keepIn (K P) (.ref fa) = true ∧ fnIn (K P) fa = true := by
  replace h := opt_some h
  obtain ⟨F, hF, h⟩ := h
  replace h := tst_some h
  obtain ⟨hl, h⟩ := h
  obtain ⟨m1, m2⟩ := fnAt_mem hF
  cases e : r.b ⟨F.cs, true⟩ F.body ⟨objs, locs0 F.xs args F.rest, []⟩ o with
  | none => rw [e] at h; first | exact no_ h | cases h
  | some p =>
    obtain ⟨z, σ', o'', g'⟩ := p
    rw [e] at h
    cases h
    rw [← m2]
    refine ⟨callT_of (HT.fns F m1).1 (Nat.eq_of_beq_eq_true hl) (H.b e hg) ?_ rfl, (HT.fns F m1).2⟩
    cases z <;> rfl
noncomputable def stepEv (prog : Program) (K : Params → Frag) (T : Tab) (n : Nat) (r : Ev) : Ev := { e := stE T r, t := stTst r, b := stB prog K n T r, c := stC T r }
noncomputable def noEv : Ev := { e := fun _ _ _ _ => none, t := fun _ _ _ _ => none, b := fun _ _ _ _ => none, c := fun _ _ _ _ => none }
noncomputable def evN (prog : Program) (K : Params → Frag) (T : Tab) : Nat → Ev
  | 0 => noEv
  | n + 1 => stepEv prog K T (n + 1) (evN prog K T n)
theorem evN_ok (HT : TabOk K T) : ∀ n, Sound prog K n (evN prog K T n)
  | 0 => ⟨fun h => (nomatch h), fun h => (nomatch h), fun h => (nomatch h), fun h => (nomatch h)⟩
  | n + 1 => by
    have H := evN_ok HT n
    refine ⟨fun h hg => stE_ok HT H h hg, fun h hg => stTst_ok H h hg, fun h hg => stB_ok HT H h hg, fun h hg => ?_⟩
    obtain ⟨h1, h2⟩ := stC_ok HT H h hg
    exact ⟨h1.more (Nat.le_succ _), h2⟩
end
noncomputable def limV (n : Nat) : AV → Bool
  | .obj i => Nat.blt i n
  | _ => true
noncomputable def limO (n : Nat) : AO → Bool
  | .list xs => xs.all (limV n)
  | .il _ => true
  | .tup xs => xs.all (limV n)
  | .dict es => es.all fun p => limV n p.2
  | .inst _ d => Nat.blt d n
  | .attrs es => es.all fun p => limV n p.2
  | .meth _ x => limV n x
  | .cell (some x) => limV n x
  | .cell none => true
  | .rng _ _ _ => true
  | .fn _ cl cd => Nat.blt cd n && cl.all fun p => Nat.blt p.2 n
  | .code _ => true
  | .tab _ => true
  | .junk => true
theorem blt_of {i n : Nat} (h : Nat.blt i n = true) : i < n := Nat.le_of_ble_eq_true h
theorem take_get {as : List Addr} {i n : Nat} {a : Addr} (h : as[i]? = some a) (hi : i < n) : (as.take n)[i]? = some a := by
  rw [List.getElem?_take]; simp [hi, h]
theorem RV.down {as : List Addr} {n : Nat} {x : AV} {v : Value} (r : RV as x v) (h : limV n x = true) : RV (as.take n) x v := by
  cases x with
  | obj i => obtain ⟨a, h1, h2⟩ := r; exact ⟨a, take_get h1 (blt_of h), h2⟩
  | _ => exact r
theorem RVs.down {as : List Addr} {n : Nat} {xs : List AV} {vs : List Value} (r : RVs as xs vs) (h : xs.all (limV n) = true) : RVs (as.take n) xs vs := by
  induction r with
  | nil => exact .nil
  | cons r _ ih =>
    rw [List.all_cons, Bool.and_eq_true] at h
    exact .cons (r.down h.1) (ih h.2)
theorem REs.down {P : Params} {as : List Addr} {n : Nat} {xs : List (Str × AV)} {vs : List DictEntry} (r : REs P as xs vs) (h : (xs.all fun p => limV n p.2) = true) : REs P (as.take n) xs vs := by
  induction r with
  | nil => exact .nil
  | cons r _ ih =>
    rw [List.all_cons, Bool.and_eq_true] at h
    obtain ⟨t, v, e, r⟩ := r
    exact .cons ⟨t, v, e, r.down h.1⟩ (ih h.2)
theorem RCs.down {as : List Addr} {n : Nat} {xs : List (Str × Nat)} {vs : List (Str × Addr)} (r : RCs as xs vs) (h : (xs.all fun p => Nat.blt p.2 n) = true) : RCs (as.take n) xs vs := by
  induction r with
  | nil => exact .nil
  | cons r _ ih =>
    rw [List.all_cons, Bool.and_eq_true] at h
    exact .cons (take_get r (blt_of h.1)) (ih h.2)
theorem RO.down {P : Params} {as : List Addr} {n : Nat} {x : AO} {o : Obj} (r : RO P as x o) (h : limO n x = true) : RO P (as.take n) x o := by
  cases x with
  | list xs => obtain ⟨vs, n', d, r⟩ := r; exact ⟨vs, n', d, r.down h⟩
  | il xs => exact r
  | tup xs => obtain ⟨vs, n', d, r⟩ := r; exact ⟨vs, n', d, r.down h⟩
  | dict es => obtain ⟨l, n', e, r, k⟩ := r; exact ⟨l, n', e, r.down h, k⟩
  | inst C d => obtain ⟨a, e, r⟩ := r; exact ⟨a, take_get e (blt_of h), r⟩
  | attrs es => obtain ⟨l, n', e, r, k⟩ := r; exact ⟨l, n', e, r.down h, k⟩
  | meth f x => obtain ⟨v, r, e⟩ := r; exact ⟨v, r.down h, e⟩
  | cell v =>
    obtain ⟨u, e, r⟩ := r
    refine ⟨u, e, ?_⟩
    cases v <;> cases u <;> first | exact RV.down r h | exact r
  | rng a b c => exact r
  | fn F cl cd =>
    have h' := Bool.and_eq_true_iff.mp h
    obtain ⟨bs, ce, doc, pm, ctv, r, e, z⟩ := r
    exact ⟨bs, ce, doc, pm, ctv, r.down h'.2, take_get e (blt_of h'.1), z⟩
  | code n => exact r
  | tab ps => exact r
  | junk => trivial
theorem RV.lim {as : List Addr} {x : AV} {v : Value} (r : RV as x v) : limV as.length x = true := by
  cases x with
  | obj i =>
    obtain ⟨a, h1, _⟩ := r
    exact Nat.ble_eq_true_of_le (List.getElem?_eq_some_iff.mp h1).1
  | _ => rfl
theorem limV.mono {n m : Nat} {x : AV} (h : limV n x = true) (le : n ≤ m) : limV m x = true := by
  cases x with
  | obj i => exact Nat.ble_eq_true_of_le (Nat.le_trans (blt_of h) le)
  | _ => rfl
theorem At.drop {c : Cx} {as : List Addr} {os : List Obj} {m : Str → Option Value} {σ : S} {s : Shared} (R : At c as os m σ s) (n : Nat) (h1 : (σ.objs.take n).all (limO n) = true) (h2 : ∀ x av, (x, some av) ∈ σ.locs → limV n av = true) (h3 : ∀ x i, (x, i) ∈ σ.cells → i < n) :
    At c (as.take n) (os.take n) m { σ with objs := σ.objs.take n } s :=
  { gens := R.gens, os_ := R.os_, fr := R.fr
    news := fun p hp => R.news p (by
      rcases List.mem_append.mp hp with h | h
      · rw [show (as.take n).zip (os.take n) = (as.zip os).take n from (List.take_zipWith ..).symm] at h
        exact List.mem_append_left _ (List.mem_of_mem_take h)
      · exact List.mem_append_right _ h)
    len := by rw [List.length_take, List.length_take, R.len]
    len' := by rw [List.length_take, List.length_take, R.len']
    nodup := by
      have := R.nodup
      rw [List.nodup_append] at this ⊢
      exact ⟨this.1.sublist (List.take_sublist ..), this.2.1, fun a ha b hb => this.2.2 a (List.mem_of_mem_take ha) b hb⟩
    objs := fun i ao o e1 e2 => by
      rw [List.getElem?_take] at e1 e2
      by_cases hi : i < n
      · rw [if_pos hi] at e1 e2
        refine (R.objs i ao o e1 e2).down (List.all_eq_true.mp h1 ao (List.mem_of_getElem? (i := i) ?_))
        rw [List.getElem?_take, if_pos hi]; exact e1
      · rw [if_neg hi] at e1; cases e1
    locs := fun x av h => let ⟨v, e1, e2⟩ := R.locs x av h; ⟨v, e1, e2.down (h2 x av h)⟩
    keys := R.keys
    cells := fun x i h => let ⟨a, e1, e2⟩ := R.cells x i h; ⟨a, e1, take_get e2 (h3 x i h)⟩
    comp := R.comp }
section
variable {prog : Program} {K : Params → Frag} {d : Nat}
theorem CallT.drop {fa : Addr} {args : List AV} {objs objs' : List AO} {x : AV} (h : CallT prog K d fa args objs x objs') (n : Nat) (hn : objs.length ≤ n) (hx : limV n x = true) (ho : (objs'.take n).all (limO n) = true) :
    CallT prog K d fa args objs x (objs'.take n) := by
  intro f c σ hf ok hσ as os m s vs Q E R rvs hq
  refine h f c σ hf ok hσ as os m s vs Q E R rvs fun bs os' m' v s' rv R' => ?_
  have la : as.length ≤ n := by rw [← R.len', hσ]; exact hn
  have R'' := R'.drop n ho (fun y av hm => by
    obtain ⟨u, _, r⟩ := R.locs y av hm
    exact limV.mono r.lim la) (fun y i hm => by
    obtain ⟨a, _, e⟩ := R.cells y i hm
    exact Nat.lt_of_lt_of_le (List.getElem?_eq_some_iff.mp e).1 la)
  have e : (as ++ bs).take n = as ++ bs.take (n - as.length) := by
    rw [List.take_append, List.take_of_length_le la]
  rw [e] at R''
  refine hq _ _ _ _ _ ?_ R''
  rw [← e]
  exact rv.down hx
/-- less may be told of the objects -/
noncomputable def WkO (a b : AO) : Prop := ∀ P as o, RO P as a o → RO P as b o
noncomputable def WkV (a b : AV) : Prop := ∀ as v, RV as a v → RV as b v
inductive WkOs : List AO → List AO → Prop
  | nil : WkOs [] []
  | cons {a b as bs} : WkO a b → WkOs as bs → WkOs (a :: as) (b :: bs)
theorem WkOs.length {l l' : List AO} (h : WkOs l l') : l.length = l'.length := by
  induction h with
  | nil => rfl
  | cons _ _ ih => simp [ih]
theorem WkOs.get {l l' : List AO} (h : WkOs l l') : ∀ (i : Nat) (b : AO), l'[i]? = some b → ∃ a, l[i]? = some a ∧ WkO a b := by
  induction h with
  | nil => intro i b h; simp at h
  | cons w _ ih =>
    intro i b h
    cases i with
    | zero => simp at h; subst h; exact ⟨_, rfl, w⟩
    | succ i => exact ih i b (by simpa using h)
theorem At.weak {c : Cx} {as : List Addr} {os : List Obj} {m : Str → Option Value} {σ : S} {s : Shared} {objs' : List AO} (R : At c as os m σ s) (w : WkOs σ.objs objs') : At c as os m { σ with objs := objs' } s :=
  { R with
    len' := by rw [← R.len']; exact w.length.symm
    objs := fun i ao o e1 e2 => by
      obtain ⟨a, h1, h2⟩ := w.get i ao e1
      exact h2 _ _ _ (R.objs i a o h1 e2) }
theorem CallT.wk {fa : Addr} {args : List AV} {objs objs' objs'' : List AO} {x : AV} (h : CallT prog K d fa args objs x objs') (w : WkOs objs' objs'') : CallT prog K d fa args objs x objs'' := by
  intro f c σ hf ok hσ as os m s vs Q E R rvs hq
  exact h f c σ hf ok hσ as os m s vs Q E R rvs fun bs os' m' v s' rv R' => hq _ _ _ _ _ rv (R'.weak w)
theorem WkO.refl {a : AO} : WkO a a := fun _ _ _ h => h
inductive WkEs : List (Str × AV) → List (Str × AV) → Prop
  | nil : WkEs [] []
  | cons {k a b as bs} : WkV a b → WkEs as bs → WkEs ((k, a) :: as) ((k, b) :: bs)
theorem WkEs.keys {l l' : List (Str × AV)} (h : WkEs l l') : l'.map (·.1) = l.map (·.1) := by
  induction h with
  | nil => rfl
  | cons _ _ ih => simp [ih]
theorem WkEs.rel {P : Params} {as : List Addr} {l l' : List (Str × AV)} (h : WkEs l l') : ∀ {es : List DictEntry}, REs P as l es → REs P as l' es := by
  induction h with
  | nil => exact fun h => h
  | cons w _ ih =>
    intro es r
    cases r with
    | cons r rs =>
      obtain ⟨t, v, e, r⟩ := r
      exact .cons ⟨t, v, e, w _ _ r⟩ (ih rs)
theorem WkEs.attrs {l l' : List (Str × AV)} (h : WkEs l l') : WkO (.attrs l) (.attrs l') := fun P as o ⟨es, n, e, r, k⟩ => ⟨es, n, e, h.rel r, by rw [h.keys]; exact k⟩
theorem WkV.refl {a : AV} : WkV a a := fun _ _ h => h
theorem WkEs.refl : ∀ {l : List (Str × AV)}, WkEs l l
  | [] => .nil
  | (_, _) :: _ => .cons .refl .refl
theorem WkV.top {a : AV} : WkV a .top := fun _ _ _ => trivial
theorem WkV.anyC {i : Int} : WkV (.cint i) .any := fun _ _ ⟨t, h⟩ => ⟨i, t, h⟩
theorem WkV.intC {i : Int} : WkV (.cint i) (.int i) := fun _ _ h => h
end
inductive RKV (as : List Addr) : List (Str × AV) → List (Str × Value) → Prop
  | nil : RKV as [] []
  | cons {k x v xs vs} : RV as x v → RKV as xs vs → RKV as ((k, x) :: xs) ((k, v) :: vs)
theorem RKV.keys {as : List Addr} {es : List (Str × AV)} {kvs : List (Str × Value)} (h : RKV as es kvs) : kvs.map (·.1) = es.map (·.1) := by
  induction h with
  | nil => rfl
  | cons _ _ ih => simp [ih]
theorem RKV.look {as : List Addr} {es : List (Str × AV)} {kvs : List (Str × Value)} (h : RKV as es kvs) {k : Str} {x : AV} (e : Mine.look k es = some x) : ∃ v, valueAt kvs k = some v ∧ RV as x v := by
  induction h with
  | nil => cases e
  | @cons k' y v xs vs r rs ih =>
    unfold Mine.look at e
    unfold valueAt
    rw [List.find?_cons]
    cases q : Fast.sEq k' k with
    | true =>
      rw [q] at e
      cases e
      have := Fast.sEq_iff.mp q
      subst this
      exact ⟨v, by simp, r⟩
    | false =>
      rw [q] at e
      have ne : k' ≠ k := fun h => by rw [Fast.sEq_iff.mpr h] at q; cases q
      simp only [ne, decide_false]
      exact ih e
theorem RKV.lookN {as : List Addr} {es : List (Str × AV)} {kvs : List (Str × Value)} (h : RKV as es kvs) {k : Str} (e : Mine.look k es = none) : valueAt kvs k = none := by
  induction h with
  | nil => rfl
  | @cons k' y v xs vs r rs ih =>
    unfold Mine.look at e
    unfold valueAt
    rw [List.find?_cons]
    cases q : Fast.sEq k' k with
    | true => rw [q] at e; cases e
    | false =>
      rw [q] at e
      have ne : k' ≠ k := fun h => by rw [Fast.sEq_iff.mpr h] at q; cases q
      simp only [ne, decide_false]
      exact ih e
theorem map_same {k : Str} {v : Value} : ∀ {kvs : List (Str × Value)}, k ∉ kvs.map (·.1) → kvs.map (fun kv => if kv.1 = k then (kv.1, v) else kv) = kvs
  | [], _ => rfl
  | (k', u) :: r, h => by
    have h1 : k' ≠ k := fun e => h (by rw [e]; exact .head _)
    have h2 : k ∉ r.map (·.1) := fun e => h (.tail _ e)
    simp only [List.map_cons, h1, if_false]
    rw [map_same h2]
theorem RKV.store {as : List Addr} {k : Str} {x : AV} {v : Value} (rv : RV as x v) {es : List (Str × AV)} {kvs : List (Str × Value)} (h : RKV as es kvs) : (es.map (·.1)).Nodup → RKV as (setA k x es) (stored kvs k v) := by
  induction h with
  | nil => intro _; exact .cons rv .nil
  | @cons k' y u xs vs r rs ih =>
    intro nd
    have nd' := List.nodup_cons.mp (show (k' :: xs.map (·.1)).Nodup from nd)
    unfold setA
    cases q : Fast.sEq k' k with
    | true =>
      have := Fast.sEq_iff.mp q
      subst this
      unfold stored
      have e1 : ((k', u) :: vs).any (fun kv => decide (kv.1 = k')) = true := by simp
      rw [if_pos e1]
      have : vs.map (fun kv => if kv.1 = k' then (kv.1, v) else kv) = vs := map_same (by rw [rs.keys]; exact nd'.1)
      simp only [List.map_cons, if_true, this]
      exact .cons rv rs
    | false =>
      have ne : k' ≠ k := fun h => by rw [Fast.sEq_iff.mpr h] at q; cases q
      have ih := ih nd'.2
      have e : stored ((k', u) :: vs) k v = (k', u) :: stored vs k v := by
        unfold stored
        simp only [List.any_cons, ne, decide_false, Bool.false_or]
        split
        · simp [ne]
        · rfl
      rw [e]
      exact .cons r ih
theorem dict_is {prog : Program} {w : World} {as : List Addr} {es : List (Str × AV)} {l : List DictEntry} {n : Nat} (r : REs w.params as es l) (nd : (es.map (·.1)).Nodup) : ∃ kvs, (dictOf l n).IsDictOf (strKind prog w) kvs ∧ RKV as es kvs := by
  have key : ∃ kvs, KeysOf (strKind prog w) l.toArray ∧ Pairs (strKind prog w) l kvs ∧ RKV as es kvs := by
    clear nd
    induction r with
    | nil => exact ⟨[], fun e h => by simp at h, .nil, .nil⟩
    | @cons p ps e es r rs ih =>
      obtain ⟨t, v, rfl, rv⟩ := r
      obtain ⟨k, x⟩ := p
      obtain ⟨kvs, h1, h2, h3⟩ := ih
      refine ⟨(k, v) :: kvs, fun e he => ?_, .cons (strKind_is prog w k t) rfl h2, .cons rv h3⟩
      rw [List.mem_toArray] at he
      rcases List.mem_cons.mp he with rfl | he
      · exact ⟨k, strKind_is prog w k t, rfl⟩
      · exact h1 e (by rw [List.mem_toArray]; exact he)
  obtain ⟨kvs, h1, h2, h3⟩ := key
  exact ⟨kvs, ⟨l.toArray, n, ⟨rfl, rfl, rfl⟩, rfl, h1, by simpa using h2, by rw [h3.keys]; exact nd⟩, h3⟩
theorem of_dict {prog : Program} {w : World} {as : List Addr} {es : List (Str × AV)} {o : Obj} {kvs : List (Str × Value)} (h : o.IsDictOf (strKind prog w) kvs) (r : RKV as es kvs) : RO w.params as (.dict es) o := by
  obtain ⟨l, ep, ⟨e1, e2, e3⟩, e4, h1, h2, nd⟩ := h
  refine ⟨l.toList, ep, ?_, ?_, by rw [← r.keys]; exact nd⟩
  · obtain ⟨c, dd, dt, sl⟩ := o
    cases e1; cases e2; cases e3; cases e4
    simp
  · have hk : ∀ e ∈ l.toList, ∃ k, (strKind prog w).is k e.key = true ∧ e.hash = (strKind prog w).hash k := fun e he => h1 e (by simpa using he)
    clear h1 nd e4
    generalize l.toList = l' at h2 hk
    induction r generalizing l' with
    | nil => cases h2; exact .nil
    | cons rv _ ih =>
      cases h2 with
      | @cons e kv es kvs g1 g2 g3 =>
        refine .cons ?_ (ih _ g3 fun e he => hk e (.tail _ he))
        obtain ⟨k', q1, q2⟩ := hk _ (.head _)
        have := (strKind prog w).inj _ _ _ g1 q1
        dsimp only at this
        subst this
        obtain ⟨t, ht⟩ := Value.isStrOf_shape g1
        obtain ⟨hh, kk, vv⟩ := e
        dsimp only at ht g2 q2
        subst ht g2 q2
        exact ⟨t, _, rfl, rv⟩
section
variable {prog : Program} {K : Params → Frag} {f : Fx} {d : Nat} {σ σ₁ σ₂ σ₃ : S}
theorem At.low {c : Cx} {as : List Addr} {os : List Obj} {m : Str → Option Value} {s : Shared} (one : ∀ P, ((K P).lookup sysModules).isSome = true) (ok : Ok K f d c) (R : At c as os m σ s) {p : Addr × Obj} (hp : p ∈ as.zip os ++ c.rest) : (p.1 == sysModules) = false := by
  rw [beq_eq_false_iff_ne]
  intro e
  have h2 := (R.news p hp).2.2
  obtain ⟨o, ho⟩ := Option.isSome_iff_exists.mp (one c.w.params)
  have := ok.kin _ _ ho
  rw [e, this] at h2
  cases h2
/-- what a dict holds under a str -/
theorem EvE.subD {value slice : Expr} {pos : Pos} {y : AV} {i : Nat} {es : List (Str × AV)} {k : Str} {z : AV} (h1 : EvE prog K f d value σ (.obj i) σ₁) (h2 : EvE prog K f d slice σ₁ y σ₂) (hn : notSlice slice = true) (hy : y.s? = some k) (hi : σ₂.objs[i]? = some (.dict es))
    (hz : look k es = some z) : EvE prog K f d (.Subscript value slice pos) σ z σ₂ := by
  refine .subAt h1 h2 fun c as os m s Q E a b ok R ra rb hq => ?_
  obtain ⟨q, o, g1, _, gm, g2, l, n, rfl, g3, g4⟩ := R.obj hi
  obtain ⟨q', g1', rfl⟩ := ra
  rw [g1] at g1'; cases g1'
  obtain ⟨t, rfl⟩ : ∃ t, b = .str k t := by cases y <;> first | (cases hy; exact rb) | cases hy
  obtain ⟨kvs, e1, e2⟩ := dict_is (prog := prog) (w := c.w) g3 g4
  obtain ⟨v, e3, rv⟩ := e2.look hz
  have hd : s.heap.DictOf (strKind prog c.w) q kvs := Heap.dictOf_iff.mpr ⟨_, g2, e1⟩
  exact tail_any hd.typeIs slot_dict_getitem.lookup (wpAny_getItem_of (strKind_is prog c.w k t) hd.mapOf e3 (hq _ _ rv)) (subscripted_plain hn)
/-- is a str in a dict -/
theorem EvE.cmpAt {op : CmpOp} {l r : Expr} {pos : Pos} {x y z : AV} (h1 : EvE prog K f d l σ x σ₁) (h2 : EvE prog K f d r σ₁ y σ₂) (hm : behindInMarks op r = false)
    (h : ∀ (c : Cx) (as : List Addr) (os : List Obj) (m : Str → Option Value) (s : Shared) (Q E : Value → Shared → Prop) (a b : Value), Ok K f d c → At c as os m σ₂ s → RV as x a → RV as y b → (∀ v t, RV as z v → Q v { s with toks := t }) → wpAny (model prog c.w) c.A (compareOp op a b) Q E s) :
    EvE prog K f d (.Compare l [op] [r] pos) σ z σ₂ := by
  intro c ok as os m s Q E R hq
  refine wpAny_Compare1 (h1 c ok as os m s _ E R fun bs os₁ m₁ a s₁ ra R₁ => ?_) hm
  refine h2 c ok _ os₁ m₁ s₁ _ E R₁ fun bs₂ os₂ m₂ b s₂ rb R₂ => ?_
  refine h c (as ++ bs ++ bs₂) os₂ m₂ s₂ Q E a b ok R₂ ra.up rb fun v t rv => ?_
  rw [List.append_assoc] at rv R₂
  exact hq (bs ++ bs₂) os₂ m₂ v _ rv (R₂.toks t)
theorem EvT.cmpAt {op : CmpOp} {l r : Expr} {pos : Pos} {x y z : AV} {b k : Bool} (h1 : EvE prog K f d l σ x σ₁) (h2 : EvE prog K f d r σ₁ y σ₂) (hm : behindInMarks op r = false)
    (h : ∀ (c : Cx) (as : List Addr) (os : List Obj) (m : Str → Option Value) (s : Shared) (Q E : Value → Shared → Prop) (a b : Value), Ok K f d c → At c as os m σ₂ s → RV as x a → RV as y b → (∀ v t, RV as z v → Q v { s with toks := t }) → wpAny (model prog c.w) c.A (compareOp op a b) Q E s)
    (ht : truthV z = some (b, k)) : EvT prog K f d (.Compare l [op] [r] pos) σ b σ₂ := by
  intro c ok as os m s Q E R hq
  refine wpAny_isTrue_Compare1 (h1 c ok as os m s _ E R fun bs os₁ m₁ a s₁ ra R₁ => ?_) hm
  refine h2 c ok _ os₁ m₁ s₁ _ E R₁ fun bs₂ os₂ m₂ v s₂ rb R₂ => ?_
  refine h c (as ++ bs ++ bs₂) os₂ m₂ s₂ _ E a v ok R₂ ra.up rb fun v t rv => ?_
  rw [List.append_assoc] at R₂
  exact truth_of ht rv (hq _ _ _ _ (R₂.toks t))
/-- a comparison of told values, of all kinds -/
noncomputable def CmpAt (prog : Program) (K : Params → Frag) (f : Fx) (d : Nat) (op : CmpOp) (σ : S) (x y z : AV) : Prop :=
  ∀ (c : Cx) (as : List Addr) (os : List Obj) (m : Str → Option Value) (s : Shared) (Q E : Value → Shared → Prop) (a b : Value), Ok K f d c → At c as os m σ s → RV as x a → RV as y b → (∀ v t, RV as z v → Q v { s with toks := t }) → wpAny (model prog c.w) c.A (compareOp op a b) Q E s
theorem CmpAt.plain {op : CmpOp} {x y z : AV} (h : cmpV op x y = some z) : CmpAt prog K f d op σ x y z := fun c as os m s Q E a b _ _ ra rb hq => cmpV_of h c.w c.A as a b s Q E ra rb fun v rv => hq v s.toks rv
theorem CmpAt.inD {x y : AV} {i : Nat} {es : List (Str × AV)} {k : Str} (one : ∀ P, ((K P).lookup sysModules).isSome = true) (hx : x.s? = some k) (hy : y = .obj i) (hi : σ.objs[i]? = some (.dict es)) : CmpAt prog K f d .In σ x y (.cb (look k es).isSome) := by
  intro c as os m s Q E a b ok R ra rb hq
  subst hy
  obtain ⟨q, o, g1, _, gm, g2, l, n, rfl, g3, g4⟩ := R.obj hi
  obtain ⟨q', g1', rfl⟩ := rb
  rw [g1] at g1'; cases g1'
  obtain ⟨t, rfl⟩ : ∃ t, a = .str k t := by cases x <;> first | (cases hx; exact ra) | cases hx
  obtain ⟨kvs, e1, e2⟩ := dict_is (prog := prog) (w := c.w) g3 g4
  have hd : s.heap.DictOf (strKind prog c.w) q kvs := Heap.dictOf_iff.mpr ⟨_, g2, e1⟩
  refine wpAny_in_of (strKind_is prog c.w k t) (R.low one ok gm) hd.mapOf (hq _ _ ?_)
  cases e : look k es with
  | none => rw [e2.lookN e]; rfl
  | some z => obtain ⟨v, e3, _⟩ := e2.look e; rw [e3]; rfl
/-- a store into a dict -/
theorem EvS.setD {o i : Expr} {pos' pos : Pos} {value : Expr} {x y : AV} {j : Nat} {es : List (Str × AV)} {k : Str} (h : EvE prog K f d value σ x σ₁) (h1 : EvE prog K f d o σ₁ (.obj j) σ₂) (h2 : EvE prog K f d i σ₂ y σ₃) (hy : y.s? = some k) (hj : σ₃.objs[j]? = some (.dict es))
    (hz : es.length ≤ 1000) (hs : ∀ env : Env, swapsWith value (some (.Subscript o i pos')) pos.line env = pure false) :
    EvS prog K f d (.Assign [.Subscript o i pos'] value pos) σ .next { σ₃ with objs := σ₃.objs.set j (.dict (setA k x es)) } := by
  intro c ok as os m s Q E R hq
  refine wpAny_Assign_Subscript (h c ok as os m s _ E R fun bs os₁ m₁ v s₁ rv R₁ => ?_) (hs _)
  refine h1 c ok _ os₁ m₁ s₁ _ E R₁ fun bs₂ os₂ m₂ w s₂ rw R₂ => ?_
  refine h2 c ok _ os₂ m₂ s₂ _ E R₂ fun bs₃ os₃ m₃ u s₃ ru R₃ => ?_
  obtain ⟨t, rfl⟩ : ∃ t, u = .str k t := by cases y <;> first | (cases hy; exact ru) | cases hy
  obtain ⟨a, ha, rfl⟩ := rw
  obtain ⟨a', ob, g1, g2, gm, g4, l, n, rfl, g5, g6⟩ := R₃.obj hj
  have g1' := getElem?_app (r := bs₃) ha
  rw [g1'] at g1
  cases g1
  obtain ⟨kvs, e1, e2⟩ := dict_is (prog := prog) (w := c.w) g5 g6
  have hd : s₃.heap.DictOf (strKind prog c.w) a kvs := Heap.dictOf_iff.mpr ⟨_, g4, e1⟩
  have hl : kvs.length ≤ sizeLine := by
    have := congrArg List.length e2.keys
    simp only [List.length_map] at this
    rw [this]
    exact Nat.le_trans hz (by decide +kernel)
  refine wpAny_setItem_pairs (strKind_is prog c.w k t) hd (fun h' hd' hs' => ?_) hl
  obtain ⟨o', ho', hd''⟩ := Heap.dictOf_iff.mp hd'
  have rx : RV (as ++ bs ++ bs₂ ++ bs₃) x v := rv.up.up
  have R' := R₃.upd (s' := { s₃ with heap := h', toks := s₃.toks + 1 }) (i := j) (o' := o') (ao' := .dict (setA k x es)) rfl rfl (R₃.fr.change hs' (R₃.news _ gm).2.1 (R₃.news _ gm).2.2) (by
    have U := upd_zip (rest := c.rest) o' g1' g2 R₃.nodup
    obtain ⟨pre, post, q1, q2, d1, d2⟩ := U.split
    have N := R₃.news
    rw [q1] at N
    rw [q2]
    exact N.setAt d1 d2 hs' ho') (of_dict hd'' (e2.store rx g6))
  rw [List.append_assoc, List.append_assoc] at R'
  exact hq _ _ _ _ _ rfl R'
/-- a display of written strs and ints -/
noncomputable def strK : Option Expr → Option Str
  | some (.Constant c _ _) => match c with
    | .str x => some x
    | _ => none
  | _ => none
noncomputable def intV : Expr → Option Int
  | .Constant c _ _ => match c with
    | .int i => some i
    | _ => none
  | _ => none
noncomputable def constPairs : List (Option Expr) → List Expr → Option (List (Str × Int))
  | [], vs => match vs with
    | [] => some []
    | _ :: _ => none
  | k :: ks, vs => match vs with
    | [] => none
    | v :: vs => opt (strK k) fun x => opt (intV v) fun i => opt (constPairs ks vs) fun l => some ((x, i) :: l)
end
section
variable {prog : Program} {K : Params → Frag} {f : Fx} {d : Nat} {σ σ₁ σ₂ σ₃ : S}
/-- an object made -/
theorem At.made {c : Cx} {as : List Addr} {os : List Obj} {m : Str → Option Value} {s : Shared} {σ : S} {a : Addr} {o : Obj} {ao : AO} {h' : Heap} {tk : Nat} (R : At c as os m σ s) (F' : Fr c.h₀ c.L h' m) (N' : News c.h₀ c.L h' ((a, o) :: (as.zip os ++ c.rest))) (lt : ∀ p ∈ as.zip os ++ c.rest, p.1 < a)
    (r : RO c.w.params (as ++ [a]) ao o) : At c (as ++ [a]) (os ++ [o]) m { σ with objs := σ.objs ++ [ao] } { s with heap := h', toks := tk } ∧ RV (as ++ [a]) (.obj σ.objs.length) (.ref a) := by
  refine ⟨R.new (s' := { s with heap := h', toks := tk }) rfl rfl F' N' (not_mem_of_lt R.len lt) r, a, ?_, rfl⟩
  rw [R.len', List.getElem?_append_right (Nat.le_refl _), Nat.sub_self]
  rfl
theorem At.lt {c : Cx} {as : List Addr} {os : List Obj} {m : Str → Option Value} {s : Shared} {σ : S} (R : At c as os m σ s) : ∀ p ∈ as.zip os ++ c.rest, p.1 < s.heap.objs.size := fun p hp => Heap.lt_size (R.news p hp).1
theorem EvE.list {es : List Expr} {pos : Pos} {xs : List AV} (h : EvA prog K f d es σ xs σ₁) (hz : xs.length ≤ 1000) : EvE prog K f d (.List es pos) σ (.obj σ₁.objs.length) { σ₁ with objs := σ₁.objs ++ [.list xs] } := by
  intro c ok as os m s Q E R hq
  refine List_ (h c pos ok as os m s _ E R fun bs os₁ m₁ vs s₁ rvs R₁ => ?_)
  refine newList_K R₁.fr R₁.news (fun l h' F' N' lt => ?_) (Nat.le_trans (by rw [rvs.length]; exact hz) (by decide +kernel))
  obtain ⟨R₂, r⟩ := R₁.made (tk := s₁.toks) F' N' lt (ao := .list xs) ⟨_, _, rfl, by simpa using rvs.up⟩
  rw [List.append_assoc] at R₂ r
  exact hq _ _ _ _ _ r R₂
theorem EvE.tuple {es : List Expr} {k : Nat} {pos : Pos} {xs : List AV} (h : EvA prog K f d es σ xs σ₁) (hz : xs.length ≤ 1000) : EvE prog K f d (.Tuple es k pos) σ (.obj σ₁.objs.length) { σ₁ with objs := σ₁.objs ++ [.tup xs] } := by
  intro c ok as os m s Q E R hq
  refine Tuple_ (h c pos ok as os m s _ E R fun bs os₁ m₁ vs s₁ rvs R₁ => ?_)
  refine kup_newTuple R₁.fr R₁.news (fun l h' F' N' lt => ?_) (Nat.le_trans (by rw [rvs.length]; exact hz) (by decide +kernel))
  obtain ⟨R₂, r⟩ := R₁.made (tk := s₁.toks) F' N' lt (ao := .tup xs) ⟨_, _, rfl, by simpa using rvs.up⟩
  rw [List.append_assoc] at R₂ r
  exact hq _ _ _ _ _ r R₂
theorem EvE.dict0 {pos : Pos} : EvE prog K f d (.Dict [] [] pos) σ (.obj σ.objs.length) { σ with objs := σ.objs ++ [.dict []] } := by
  intro c ok as os m s Q E R hq
  obtain ⟨_, _, _, _, _, T⟩ := ok.top
  refine newDict_K R.fr R.news T.nolimit fun dd h' o F' N' lt _ hd _ _ _ => ?_
  obtain ⟨R₂, r⟩ := R.made (tk := s.toks) F' N' lt (ao := .dict []) (of_dict hd .nil)
  exact hq _ _ _ _ _ r R₂
inductive PairsAre : List (Value × Value) → List (Str × Int) → Prop
  | nil : PairsAre [] []
  | cons {k i t u vs l} : PairsAre vs l → PairsAre ((.str k t, .int i u) :: vs) ((k, i) :: l)
theorem strK_of {k : Option Expr} {x : Str} (h : strK k = some x) : ∃ kk kp, k = some (.Constant (.str x) kk kp) := by
  cases k with
  | none => exact no_ h
  | some e =>
    cases e with
    | Constant c kk kp =>
      cases c with
      | str y => cases h; exact ⟨kk, kp, rfl⟩
      | _ => exact no_ h
    | _ => exact no_ h
theorem intV_of {k : Expr} {x : Int} (h : intV k = some x) : ∃ kk kp, k = .Constant (.int x) kk kp := by
  cases k with
  | Constant c kk kp =>
    cases c with
    | int y => cases h; exact ⟨kk, kp, rfl⟩
    | _ => exact no_ h
  | _ => exact no_ h
theorem pairs_eval {c : Cx} {pos : Pos} : ∀ {ks : List (Option Expr)} {vs : List Expr} {l : List (Str × Int)} {s : Shared} {Q : List (Value × Value) → Shared → Prop} {E : Value → Shared → Prop}, constPairs ks vs = some l →
    (∀ ps t, PairsAre ps l → Q ps { s with toks := t }) → wpAny (model prog c.w) c.A (evalPairs (pairTrees ks vs c.env pos)) Q E s := by
  intro ks
  induction ks with
  | nil =>
    intro vs l s Q E h hq
    cases vs with
    | nil => cases h; exact pairTrees_nil_walk (hq [] s.toks .nil)
    | cons v vs => exact no_ h
  | cons k ks ih =>
    intro vs l s Q E h hq
    cases vs with
    | nil => exact no_ h
    | cons v vs =>
      have h : opt (strK k) (fun x => opt (intV v) fun i => opt (constPairs ks vs) fun l => some ((x, i) :: l)) = some l := h
      obtain ⟨x, h1, h⟩ := opt_some h
      obtain ⟨i, h2, h⟩ := opt_some h
      obtain ⟨l', h3, h4⟩ := opt_some h
      obtain ⟨kk, kp, rfl⟩ := strK_of h1
      obtain ⟨vk, vp, rfl⟩ := intV_of h2
      cases h4
      exact pairTrees_cons_walk (wpAny_Constant_str (wpAny_Constant_int (ih h3 fun ps t hp => hq _ _ (.cons hp))))
theorem PairsAre.strs {ps : List (Value × Value)} {l : List (Str × Int)} (h : PairsAre ps l) : allStrKeys ps = true ∧ (strPairs ps).map (·.1) = l.map (·.1) ∧ ∀ as, RKV as (l.map fun p => (p.1, AV.cint p.2)) (strPairs ps) := by
  induction h with
  | nil => exact ⟨rfl, rfl, fun _ => .nil⟩
  | cons _ ih =>
    obtain ⟨h1, h2, h3⟩ := ih
    refine ⟨by simpa [allStrKeys] using h1, by simp [strPairs, h2], fun as => ?_⟩
    simp only [strPairs, List.map_cons]
    exact .cons ⟨_, rfl⟩ (h3 as)
noncomputable def hasDup : List (Str × Int) → Bool
  | [] => false
  | (k, _) :: r => match look k r with
    | some _ => true
    | none => hasDup r
theorem hasDup_of : ∀ {l : List (Str × Int)}, hasDup l = false → (l.map (·.1)).Nodup
  | [], _ => .nil
  | (k, i) :: r, h => by
    unfold hasDup at h
    cases e : look k r with
    | some _ => rw [e] at h; first | exact no_ h | cases h
    | none =>
      rw [e] at h
      refine List.nodup_cons.mpr ⟨fun hm => ?_, hasDup_of h⟩
      rw [look_lookup] at e
      obtain ⟨p, hp, rfl⟩ := List.mem_map.mp hm
      have := List.lookup_eq_none_iff.mp e p hp
      simp at this
theorem EvE.dictC {ks : List (Option Expr)} {vs : List Expr} {pos : Pos} {l : List (Str × Int)} (h : constPairs ks vs = some l) (hd : hasDup l = false) (hall : ks.all (·.isSome) = true) (hl : ks.length = vs.length) (h0 : ks ≠ []) (hlen : ks.length ≤ 15) :
    EvE prog K f d (.Dict ks vs pos) σ (.obj σ.objs.length) { σ with objs := σ.objs ++ [.dict (l.map fun p => (p.1, .cint p.2))] } := by
  intro c ok as os m s Q E R hq
  refine Dict_made (knd := strKind prog c.w) R.fr hall hl h0 hlen fun F1 => pairs_eval h fun ps t hp => ?_
  obtain ⟨e1, e2, e3⟩ := hp.strs
  refine made_str (P := fun h' => Q (.ref s.heap.objs.size) { s with heap := h', toks := t + ps.length }) R.fr R.news e1 (by rw [e2]; exact hasDup_of hd) fun h' o F' N' hd' => ?_
  obtain ⟨R₂, r⟩ := R.made (tk := t + ps.length) F' N' R.lt (ao := .dict (l.map fun p => (p.1, .cint p.2))) (of_dict hd' (e3 _))
  exact hq _ _ _ _ _ r R₂
noncomputable def intsO : AO → Option (List Int)
  | .il xs => some xs
  | .list xs => allI xs
  | _ => none
theorem intsO_of {P : Params} {as : List Addr} {ao : AO} {o : Obj} {xs : List Int} (h : intsO ao = some xs) (r : RO P as ao o) : ∃ vs n, o = listOf vs n ∧ IntsAre vs.toList xs := by
  cases ao <;> first | exact no_ h | (cases h; done) | skip
  · obtain ⟨vs, n, e, r⟩ := r
    exact ⟨vs, n, e, allI_of r h⟩
  · cases h; exact r
noncomputable def EvP (prog : Program) (K : Params → Frag) (f : Fx) (d : Nat) (e : Option Expr) (σ : S) (k : Option Int) (σ' : S) : Prop := ∀ c : Cx, Ok K f d c → ∀ as os m s (Q : Value → Shared → Prop) (E : Value → Shared → Prop), At c as os m σ s →
  (∀ bs os' m' v s', IsPart v k → At c (as ++ bs) os' m' σ' s' → Q v s') → wpAny (model prog c.w) c.A (evalPart e c.env) Q E s
theorem EvP.none : EvP prog K f d none σ none σ := by
  intro c ok as os m s Q E R hq
  exact wpAny_pure (hq [] os m _ s .none (by rw [app_nil]; exact R))
theorem EvP.some {e : Expr} {x : AV} {i : Int} (h : EvE prog K f d e σ x σ₁) (hi : x.i? = some i) : EvP prog K f d (some e) σ (some i) σ₁ := by
  intro c ok as os m s Q E R hq
  exact h c ok as os m s Q E R fun bs os' m' v s' rv R' => by
    obtain ⟨t, rfl⟩ := rv.int_of hi
    exact hq _ _ _ _ _ (.int i t) R'
/-- the ints between -/
noncomputable def sliceI (xs : List Int) (lo hi : Option Int) : List Int := match lo, hi with
  | none, none => xs
  | some i, none => xs.drop i.toNat
  | none, some j => xs.take j.toNat
  | some i, some j => (xs.drop i.toNat).take (j - i).toNat
noncomputable def sliceG (xs : List Int) (lo hi : Option Int) : List Prop := match lo, hi with
  | none, none => []
  | some i, none => [0 ≤ i]
  | none, some j => [0 ≤ j]
  | some i, some j => [0 ≤ i ∧ i ≤ j ∧ j ≤ xs.length]
theorem slice_of {vs : Array Value} {xs : List Int} {lo hi : Option Int} (h : IntsAre vs.toList xs) (hg : ∀ p ∈ sliceG xs lo hi, p) : IntsAre (slicePick vs lo hi none).toList (sliceI xs lo hi) := by
  obtain ⟨l⟩ := vs
  cases lo with
  | none => cases hi with
    | none => exact slice_ints_all h
    | some j => exact slice_ints_uptoW h (hg _ (.head _))
  | some i => cases hi with
    | none => exact slice_ints_fromW h (hg _ (.head _))
    | some j =>
      obtain ⟨h1, h2, h3⟩ := hg _ (.head _)
      exact slice_ints h h1 h2 h3
theorem EvE.slice {v : Expr} {lo hi : Option Expr} {p pos : Pos} {i : Nat} {ao : AO} {xs : List Int} {kl kh : Option Int} (h : EvE prog K f d v σ (.obj i) σ₁) (h1 : EvP prog K f d lo σ₁ kl σ₂) (h2 : EvP prog K f d hi σ₂ kh σ₃) (ho : σ₃.objs[i]? = some ao) (hx : intsO ao = some xs)
    (hz : xs.length ≤ 60000) (hg : ∀ p ∈ sliceG xs kl kh, p) : EvE prog K f d (.Subscript v (.Slice lo hi none p) pos) σ (.obj σ₃.objs.length) { σ₃ with objs := σ₃.objs ++ [.il (sliceI xs kl kh)] } := by
  intro c ok as os m s Q E R hq
  refine Subscript_ (h c ok as os m s _ E R fun bs os₁ m₁ a s₁ ra R₁ => ?_)
  refine wpAny_Slice (h1 c ok _ os₁ m₁ s₁ _ E R₁ fun bs₂ os₂ m₂ vl s₂ pl R₂ => h2 c ok _ os₂ m₂ s₂ _ E R₂ fun bs₃ os₃ m₃ vh s₃ ph R₃ => ?_)
  refine wpAny_pure ?_
  obtain ⟨q, hq1, rfl⟩ := ra
  obtain ⟨q', o, g1, _, _, g2, r⟩ := R₃.obj ho
  rw [getElem?_app (r := bs₃) (getElem?_app (r := bs₂) hq1)] at g1
  cases g1
  obtain ⟨vs, n, rfl, hi⟩ := intsO_of hx r
  have hl : s₃.heap.IsList q vs := listOf_isList g2
  have hsz : vs.size ≤ sizeLine := by
    have := hi.length
    rw [Array.length_toList] at this
    rw [this]
    exact Nat.le_trans hz (by decide +kernel)
  have hl' : (s₃.heap.push { cls := .type "slice", data := .fields #[vl, vh, .none] }).IsList q vs := hl.push _
  refine tail_any (ops := [.ref s₃.heap.objs.size, .ref q]) (Heap.IsList.typeIs (s := { s₃ with heap := s₃.heap.push { cls := .type "slice", data := .fields #[vl, vh, .none] } }) hl') slot_list_getitem.lookup
    (wpAny_getItem_list_slice hl' (Heap.IsSliceOf.new ..) pl ph .none (by simp) ?_ hsz) rfl
  have F1 := R₃.fr.push { cls := .type "slice", data := .fields #[vl, vh, .none] }
  have N1 : News c.h₀ c.L (s₃.heap.push { cls := .type "slice", data := .fields #[vl, vh, .none] }) _ := R₃.news.grown fun _ _ e => Heap.get?_push_of_some _ e
  obtain ⟨R₄, r₄⟩ := R₃.made (tk := s₃.toks) (a := s₃.heap.objs.size + 1) (o := listOf (slicePick vs kl kh none) 0) (ao := .il (sliceI xs kl kh)) (F1.push { cls := .type "list", data := .seq (slicePick vs kl kh none) }) (by
      have N2 := News.push F1 N1 { cls := .type "list", data := .seq (slicePick vs kl kh none) }
      rw [Heap.size_push] at N2
      exact N2) (fun p hp => Nat.lt_succ_of_lt (R₃.lt p hp)) ⟨_, _, rfl, slice_of hi hg⟩
  rw [List.append_assoc, List.append_assoc, List.append_assoc] at R₄ r₄
  show Q (.ref (s₃.heap.push _).objs.size) _
  rw [Heap.size_push]
  exact hq _ _ _ _ _ r₄ R₄
theorem EvE.binAt {op : Operator} {l r : Expr} {pos : Pos} {x y z : AV} {σ' : S} (h1 : EvE prog K f d l σ x σ₁) (h2 : EvE prog K f d r σ₁ y σ₂)
    (h : ∀ (c : Cx) (as : List Addr) (os : List Obj) (m : Str → Option Value) (s : Shared) (Q E : Value → Shared → Prop) (a b : Value), Ok K f d c → At c as os m σ₂ s → RV as x a → RV as y b → (∀ bs os' m' v s', RV (as ++ bs) z v → At c (as ++ bs) os' m' σ' s' → Q v s') → wpAny (model prog c.w) c.A (binaryOp op a b) Q E s) :
    EvE prog K f d (.BinOp l op r pos) σ z σ' := by
  intro c ok as os m s Q E R hq
  refine wpAny_BinOp (h1 c ok as os m s _ E R fun bs os₁ m₁ a s₁ ra R₁ => ?_)
  refine h2 c ok _ os₁ m₁ s₁ _ E R₁ fun bs₂ os₂ m₂ b s₂ rb R₂ => ?_
  refine h c (as ++ bs ++ bs₂) os₂ m₂ s₂ Q E a b ok R₂ ra.up rb fun bs₃ os₃ m₃ v s₃ rv R₃ => ?_
  rw [List.append_assoc, List.append_assoc] at rv R₃
  exact hq _ _ _ _ _ rv R₃
theorem EvE.addL {l r : Expr} {pos : Pos} {i j : Nat} {ao bo : AO} {xs ys : List Int} (h1 : EvE prog K f d l σ (.obj i) σ₁) (h2 : EvE prog K f d r σ₁ (.obj j) σ₂) (hi : σ₂.objs[i]? = some ao) (hj : σ₂.objs[j]? = some bo) (hx : intsO ao = some xs) (hy : intsO bo = some ys)
    (hz : xs.length + ys.length ≤ 60000) : EvE prog K f d (.BinOp l .Add r pos) σ (.obj σ₂.objs.length) { σ₂ with objs := σ₂.objs ++ [.il (xs ++ ys)] } := by
  refine .binAt h1 h2 fun c as os m s Q E a b ok R ra rb hq => ?_
  obtain ⟨q, o, g1, _, _, g2, r1⟩ := R.obj hi
  obtain ⟨q', o', g1', _, _, g2', r2⟩ := R.obj hj
  obtain ⟨a', e1, rfl⟩ := ra
  obtain ⟨b', e2, rfl⟩ := rb
  rw [g1] at e1; cases e1
  rw [g1'] at e2; cases e2
  obtain ⟨vs, n, rfl, hi⟩ := intsO_of hx r1
  obtain ⟨us, n', rfl, hj⟩ := intsO_of hy r2
  refine add_arrays R.fr R.news (listOf_isList g2) (listOf_isList g2') (fun h' F' N' => ?_) ?_
  · obtain ⟨R₂, r⟩ := R.made (tk := s.toks) F' N' R.lt (ao := .il (xs ++ ys)) ⟨_, _, rfl, by simpa using hi.append hj⟩
    exact hq _ _ _ _ _ r R₂
  · have h1 := hi.length
    have h2 := hj.length
    rw [Array.length_toList] at h1 h2
    rw [h1, h2]
    exact Nat.le_trans hz (by decide +kernel)
theorem rep_ints {vs : List Value} {xs : List Int} (h : IntsAre vs xs) : ∀ n : Nat, IntsAre (List.replicate n vs).flatten (List.replicate n xs).flatten
  | 0 => .nil
  | n + 1 => by
    simp only [List.replicate_succ, List.flatten_cons]
    exact h.append (rep_ints h n)
theorem foldl_app (vs : Array Value) : ∀ (n : Nat) (acc : Array Value), ((List.replicate n vs).foldl (· ++ ·) acc).toList = acc.toList ++ (List.replicate n vs.toList).flatten
  | 0, acc => by simp
  | n + 1, acc => by
    simp only [List.replicate_succ, List.foldl_cons, List.flatten_cons]
    rw [foldl_app vs n]
    simp
noncomputable def mulL (xs : List Int) (k : Int) : List Int := (List.replicate k.toNat xs).flatten
theorem EvE.mulL {l r : Expr} {pos : Pos} {i : Nat} {ao : AO} {xs : List Int} {y : AV} {k : Int} (h1 : EvE prog K f d l σ (.obj i) σ₁) (h2 : EvE prog K f d r σ₁ y σ₂) (hi : σ₂.objs[i]? = some ao) (hx : intsO ao = some xs) (hy : y.i? = some k)
    (hk : k < 60000) (hk0 : 0 ≤ k) (hz : xs.length ≤ 64) : EvE prog K f d (.BinOp l .Mult r pos) σ (.obj σ₂.objs.length) { σ₂ with objs := σ₂.objs ++ [.il (Mine.mulL xs k)] } := by
  refine .binAt h1 h2 fun c as os m s Q E a b ok R ra rb hq => ?_
  obtain ⟨q, o, g1, _, _, g2, r1⟩ := R.obj hi
  obtain ⟨a', e1, rfl⟩ := ra
  rw [g1] at e1; cases e1
  obtain ⟨t, rfl⟩ := rb.int_of hy
  obtain ⟨vs, n, rfl, hi⟩ := intsO_of hx r1
  have hl := hi.length
  rw [Array.length_toList] at hl
  refine mul_list R.fr R.news g2 (by lia) (by lia) ?_ fun h' F' N' => ?_
  · rw [hl]
    have : k.toNat ≤ 60000 := by lia
    exact Nat.le_trans (Nat.mul_le_mul hz this) (by decide)
  · obtain ⟨R₂, r⟩ := R.made (tk := s.toks) F' N' R.lt (ao := .il (Mine.mulL xs k)) ⟨_, _, rfl, by
      rw [foldl_app]
      simp only [List.nil_append]
      unfold Mine.mulL
      by_cases e : vs.isEmpty = true
      · rw [if_pos e]
        have e' : xs = [] := by
          have := Array.isEmpty_iff_size_eq_zero.mp e
          rw [this] at hl
          exact List.eq_nil_of_length_eq_zero hl.symm
        subst e'
        simp
        exact .nil
      · rw [if_neg e]
        exact rep_ints hi _⟩
    exact hq _ _ _ _ _ r R₂
theorem CmpAt.eqL {x y : AV} {i j : Nat} {ao bo : AO} {xs ys : List Int} (hx : x = .obj i) (hy : y = .obj j) (hi : σ.objs[i]? = some ao) (hj : σ.objs[j]? = some bo) (hx' : intsO ao = some xs) (hy' : intsO bo = some ys) (hd : 8 ≤ d) :
    CmpAt prog K f d .Eq σ x y (.bool (decide (xs = ys))) := by
  intro c as os m s Q E a b ok R ra rb hq
  subst hx hy
  obtain ⟨q, o, g1, _, _, g2, r1⟩ := R.obj hi
  obtain ⟨q', o', g1', _, _, g2', r2⟩ := R.obj hj
  obtain ⟨a', e1, rfl⟩ := ra
  obtain ⟨b', e2, rfl⟩ := rb
  rw [g1] at e1; cases e1
  rw [g1'] at e2; cases e2
  obtain ⟨vs, n, rfl, hi⟩ := intsO_of hx' r1
  obtain ⟨us, n', rfl, hj⟩ := intsO_of hy' r2
  exact eq_intsK (vs := vs.toList) (us := us.toList) (listOf_isList (n := n) (by simpa using g2)) hi (listOf_isList (n := n') (by simpa using g2')) hj (by have := ok.units; lia) (hq _ s.toks rfl)
theorem CmpAt.neL {x y : AV} {i j : Nat} {ao bo : AO} {xs ys : List Int} (hx : x = .obj i) (hy : y = .obj j) (hi : σ.objs[i]? = some ao) (hj : σ.objs[j]? = some bo) (hx' : intsO ao = some xs) (hy' : intsO bo = some ys) (hd : 8 ≤ d) :
    CmpAt prog K f d .NotEq σ x y (.bool (!decide (xs = ys))) := by
  intro c as os m s Q E a b ok R ra rb hq
  subst hx hy
  obtain ⟨q, o, g1, _, _, g2, r1⟩ := R.obj hi
  obtain ⟨q', o', g1', _, _, g2', r2⟩ := R.obj hj
  obtain ⟨a', e1, rfl⟩ := ra
  obtain ⟨b', e2, rfl⟩ := rb
  rw [g1] at e1; cases e1
  rw [g1'] at e2; cases e2
  obtain ⟨vs, n, rfl, hi⟩ := intsO_of hx' r1
  obtain ⟨us, n', rfl, hj⟩ := intsO_of hy' r2
  exact ne_intsK (vs := vs.toList) (us := us.toList) (listOf_isList (n := n) (by simpa using g2)) hi (listOf_isList (n := n') (by simpa using g2')) hj (by have := ok.units; lia) (hq _ s.toks rfl)
end
section
variable {prog : Program} {K : Params → Frag} {f : Fx} {d : Nat} {σ σ₁ σ₂ σ₃ : S}
theorem CmpAt.inL {x y : AV} {j : Nat} {bo : AO} {k : Int} {ys : List Int} (hx : x.i? = some k) (hy : y = .obj j) (hj : σ.objs[j]? = some bo) (hy' : intsO bo = some ys) : CmpAt prog K f d .In σ x y (.bool (ys.any (· == k))) := by
  intro c as os m s Q E a b ok R ra rb hq
  subst hy
  obtain ⟨q', o', g1', _, _, g2', r2⟩ := R.obj hj
  obtain ⟨b', e2, rfl⟩ := rb
  rw [g1'] at e2; cases e2
  obtain ⟨t, rfl⟩ := ra.int_of hx
  obtain ⟨us, n', rfl, hj⟩ := intsO_of hy' r2
  exact in_list_ints (vs := us.toList) (listOf_isList (n := n') (by simpa using g2')) hj (hq _ s.toks rfl)
noncomputable def EvAs (prog : Program) (K : Params → Frag) (f : Fx) (d : Nat) (t : Expr) (x : AV) (σ σ' : S) : Prop := ∀ c : Cx, Ok K f d c → ∀ as os m s (v : Value) (Q : Unit → Shared → Prop) (E : Value → Shared → Prop), At c as os m σ s → RV as x v →
  (∀ bs os' m' s', At c (as ++ bs) os' m' σ' s' → Q () s') → wpAny (model prog c.w) c.A (assign t c.env v) Q E s
theorem EvAs.local {x : Str} {pos : Pos} {av : AV} {l : List (Str × Option AV)} (hf : f.fn = true) (e : setLoc x av σ.locs = some l) (hk : look x f.cs.names = some .local) : EvAs prog K f d (.Name x pos) av σ { σ with locs := l } := by
  intro c ok as os m s v Q E R rv hq
  exact wpAny_assign_Name (store_local hf ok R rv e hk fun m' s' R' => hq [] os m' s' (by rw [app_nil]; exact R'))
theorem EvAs.cell {x : Str} {pos : Pos} {av : AV} {i : Nat} {u : Option AV} (hl : look x σ.cells = some i) (ho : σ.objs[i]? = some (.cell u)) (hk : look x f.cs.names = some .cell) : EvAs prog K f d (.Name x pos) av σ { σ with objs := σ.objs.set i (.cell (some av)) } := by
  intro c ok as os m s v Q E R rv hq
  exact wpAny_assign_Name (store_cell ok R rv hl ho hk fun os' s' R' => hq [] os' m s' (by rw [app_nil]; exact R'))
theorem EvAs.subI {o i : Expr} {pos : Pos} {x y : AV} {j : Nat} {xs : List Int} {k z : Int} (h1 : EvE prog K f d o σ (.obj j) σ₁) (h2 : EvE prog K f d i σ₁ y σ₂) (hx : x.i? = some z) (hy : y.i? = some k) (hj : σ₂.objs[j]? = some (.il xs)) (hg : InB xs.length k) :
    EvAs prog K f d (.Subscript o i pos) x σ { σ₂ with objs := σ₂.objs.set j (.il (xs.set k.toNat z)) } := by
  intro c ok as os m s v Q E R rv hq
  rw [PySem.arm_assign_Subscript]
  refine wpAny_bind (wpAny_holding (h1 c ok as os m s _ E R fun bs os₁ m₁ w s₁ rw R₁ => wpAny_bind (wpAny_holding (h2 c ok _ os₁ m₁ s₁ _ E R₁ fun bs₂ os₂ m₂ u s₂ ru R₂ => wpAny_bind (wpAny_standAt (wpAny_bind (wpAny_holding ?_)))))))
  obtain ⟨t, rfl⟩ := rv.int_of hx
  obtain ⟨t', rfl⟩ := ru.int_of hy
  obtain ⟨a, ha, rfl⟩ := rw
  obtain ⟨a', ob, g1, g2, _, _, vs, n, rfl, g3⟩ := R₂.obj hj
  have g1' := getElem?_app (r := bs₂) ha
  rw [g1'] at g1
  cases g1
  have hl : vs.size = xs.length := by rw [← g3.length]; simp
  refine store_item (ao := .il (xs.set k.toNat z)) R₂ g1' g2 hg.1 (by rw [hl]; exact hg.2.1) hg.2.2 ⟨_, n, rfl, ?_⟩ fun os' s' R' => ?_
  · rw [Array.toList_setIfInBounds]
    exact IntsAre.set g3 _
  · rw [List.append_assoc] at R'
    exact wpAny_release (hq _ _ _ _ R')
inductive EvAll (prog : Program) (K : Params → Frag) (f : Fx) (d : Nat) : List Expr → List AV → S → S → Prop
  | nil {τ : S} : EvAll prog K f d [] [] τ τ
  | cons {t ts x xs} {τ τ₁ τ₂ : S} : notStar t = true → EvAs prog K f d t x τ τ₁ → EvAll prog K f d ts xs τ₁ τ₂ → EvAll prog K f d (t :: ts) (x :: xs) τ τ₂
theorem EvAll.len {ts : List Expr} {xs : List AV} {σ σ' : S} (h : EvAll prog K f d ts xs σ σ') : ts.length = xs.length := by
  induction h with
  | nil => rfl
  | cons _ _ _ ih => simp [ih]
theorem EvAll.star {ts : List Expr} {xs : List AV} {σ σ' : S} (h : EvAll prog K f d ts xs σ σ') : ∀ e ∈ ts, notStar e = true := by
  induction h with
  | nil => exact fun _ h => nomatch h
  | cons hn _ _ ih =>
    intro e he
    rcases List.mem_cons.mp he with rfl | he
    · exact hn
    · exact ih e he
theorem assignEach_plain {t : Expr} {ts : List Expr} {env : Env} (h : notStar t = true) : assignEach (t :: ts) env = (false, assign t env) :: assignEach ts env := by
  cases t <;> first | rfl | exact nb_ h
theorem assignEach_len {env : Env} : ∀ {ts : List Expr}, (∀ e ∈ ts, notStar e = true) → (assignEach ts env).length = ts.length ∧ (assignEach ts env).findIdx? (fun x => x.1) = none
  | [], _ => ⟨rfl, rfl⟩
  | t :: ts, h => by
    rw [assignEach_plain (h t (.head _))]
    obtain ⟨h1, h2⟩ := assignEach_len (env := env) fun e he => h e (.tail _ he)
    refine ⟨by simp [h1], ?_⟩
    rw [List.findIdx?_cons, h2]
    rfl
theorem EvAll.run {ts : List Expr} {xs : List AV} {σ σ' : S} (h : EvAll prog K f d ts xs σ σ') {c : Cx} (ok : Ok K f d c) : ∀ {as os m s} {vs : List Value} {Q : Unit → Shared → Prop} {E : Value → Shared → Prop}, At c as os m σ s → RVs as xs vs →
    (∀ bs os' m' s', At c (as ++ bs) os' m' σ' s' → Q () s') → wpAny (model prog c.w) c.A (assignInOrder ((assignEach ts c.env).map (·.2)) vs) Q E s := by
  induction h with
  | nil =>
    intro as os m s vs Q E R rvs hq
    cases rvs
    exact wpAny_pure (hq [] os m s (by rw [app_nil]; exact R))
  | cons hn h1 _ ih =>
    intro as os m s vs Q E R rvs hq
    cases rvs with
    | cons r rs =>
      rw [assignEach_plain hn]
      refine wpAny_bind (wpAny_holding (h1 c ok as os m s _ _ E R r fun bs os₁ m₁ s₁ R₁ => ?_))
      refine ih R₁ rs.up fun bs₂ os₂ m₂ s₂ R₂ => ?_
      rw [List.append_assoc] at R₂
      exact hq _ _ _ _ R₂
/-- tuples that K holds -/
inductive IsT (K : Params → Frag) (σ : S) : AV → List AV → Prop
  | told {i xs} : σ.objs[i]? = some (.tup xs) → IsT K σ (.obj i) xs
  | kept {a xs} : (∀ P, ∃ vs : List Value, (K P).lookup a = some (⟨.type "tuple", none, .seq vs.toArray, #[]⟩ : Obj) ∧ RVs [] xs vs) → IsT K σ (.val (.ref a)) xs
theorem Le.nil {as : List Addr} : Le [] as := fun i a h => by simp at h
theorem IsT.at {c : Cx} {as : List Addr} {os : List Obj} {m : Str → Option Value} {s : Shared} {x : AV} {xs : List AV} {v : Value} (h : IsT K σ x xs) (ok : Ok K f d c) (R : At c as os m σ s) (r : RV as x v) : ∃ t vs, v = .ref t ∧ s.heap.IsTuple t vs ∧ RVs as xs vs.toList := by
  cases h with
  | told h =>
    obtain ⟨a, o, g1, _, _, g2, vs, n, rfl, g3⟩ := R.obj h
    obtain ⟨a', e, rfl⟩ := r
    rw [g1] at e; cases e
    exact ⟨a, vs, rfl, ⟨_, g2, rfl, n, rfl⟩, g3⟩
  | kept h =>
    obtain rfl : v = .ref _ := r
    obtain ⟨vs, e, rs⟩ := h c.w.params
    exact ⟨_, vs.toArray, rfl, ⟨_, R.fr.keep _ _ (ok.kin _ _ e), rfl, _, rfl⟩, rs.le .nil⟩
theorem At.ext {c : Cx} {as : List Addr} {os : List Obj} {m : Str → Option Value} {s : Shared} {h' : Heap} (R : At c as os m σ s) (he : Heap.ExtBut s.heap.objs.size s.heap h') : At c as os m σ { s with heap := h' } :=
  R.move rfl rfl (R.fr.extBut he (Nat.le_refl _)) (R.news.grown fun b o e => he b o (Nat.ne_of_lt (Heap.lt_size e)) e) (fun _ _ _ => rfl) fun _ => rfl
theorem EvAs.tuple {ts : List Expr} {k : Nat} {pos : Pos} {x : AV} {xs : List AV} {σ' : S} (ht : IsT K σ x xs) (h : EvAll prog K f d ts xs σ σ') : EvAs prog K f d (.Tuple ts k pos) x σ σ' := by
  intro c ok as os m s v Q E R rv hq
  obtain ⟨t, vs, rfl, hv, rs⟩ := ht.at ok R rv
  obtain ⟨l1, l2⟩ := assignEach_len (env := c.env) h.star
  refine wpAny_assign_Tuple ok.handled hv (by rw [l1, h.len, ← rs.length, Array.length_toList]) l2 fun h' he => ?_
  exact h.run ok (R.ext he) rs hq
theorem EvS.assignT {ts : List Expr} {k : Nat} {tp pos : Pos} {v : Expr} {x : AV} {σ' : S} (h : EvE prog K f d v σ x σ₁) (ht : EvAs prog K f d (.Tuple ts k tp) x σ₁ σ') (hs : ∀ env : Env, swapsWithSole [.Tuple ts k tp] v pos.line env = pure false)
    (hw : ∀ env : Env, env.scope = f.cs → swappedStores [.Tuple ts k tp] v env = pure none) : EvS prog K f d (.Assign [.Tuple ts k tp] v pos) σ .next σ' := by
  intro c ok as os m s Q E R hq
  refine Assign_Tuple (h c ok as os m s _ E R fun bs os₁ m₁ u s₁ ru R₁ => ?_) (hs _) (hw _ ok.scope)
  refine ht c ok _ os₁ m₁ s₁ u _ E R₁ ru fun bs₂ os₂ m₂ s₂ R₂ => ?_
  rw [List.append_assoc] at R₂
  exact hq _ _ _ _ _ rfl R₂
/-- names bound in order -/
inductive EvNs (f : Fx) : List Str → List AV → S → S → Prop
  | nil {τ : S} : EvNs f [] [] τ τ
  | cons {x xs v vs l} {τ τ' : S} : setLoc x v τ.locs = some l → look x f.cs.names = some .local → EvNs f xs vs { τ with locs := l } τ' → EvNs f (x :: xs) (v :: vs) τ τ'
theorem EvNs.run {xs : List Str} {avs : List AV} {σ σ' : S} (h : EvNs f xs avs σ σ') {c : Cx} (hf : f.fn = true) (ok : Ok K f d c) : ∀ {as os m s} {vs : List Value} {Q : Unit → Shared → Prop} {E : Value → Shared → Prop}, At c as os m σ s → RVs as avs vs →
    (∀ m' s', At c as os m' σ' s' → Q () s') → wpAny (model prog c.w) c.A (assignInOrder (xs.map fun n => bindName c.env n) vs) Q E s := by
  induction h with
  | nil =>
    intro as os m s vs Q E R rvs hq
    cases rvs
    exact wpAny_pure (hq m s R)
  | cons e hk _ ih =>
    intro as os m s vs Q E R rvs hq
    cases rvs with
    | cons r rs =>
      refine wpAny_bind (wpAny_holding (bindName_ (store_local hf ok R r e hk fun m' s' R' => ?_)))
      exact ih R' rs hq
theorem RVs.reverse {as : List Addr} {xs : List AV} {vs : List Value} (h : RVs as xs vs) : RVs as xs.reverse vs.reverse := by
  have app : ∀ {xs ys : List AV} {vs us : List Value}, RVs as xs vs → RVs as ys us → RVs as (xs ++ ys) (vs ++ us) := fun h g => by
    induction h with
    | nil => exact g
    | cons r _ ih => exact .cons r ih
  induction h with
  | nil => exact .nil
  | cons r _ ih =>
    rw [List.reverse_cons, List.reverse_cons]
    exact app ih (.cons r .nil)
theorem EvS.assignW {ts : List Expr} {k : Nat} {tp pos : Pos} {v : Expr} {x : AV} {xs : List AV} {names : List Str} {σ' : S} (hf : f.fn = true) (h : EvE prog K f d v σ x σ₁) (ht : IsT K σ₁ x xs) (hn : EvNs f names.reverse xs.reverse σ₁ σ') (hl : names.length = xs.length) (hs : ∀ env : Env, swapsWithSole [.Tuple ts k tp] v pos.line env = pure false)
    (hw : ∀ env : Env, env.scope = f.cs → swappedStores [.Tuple ts k tp] v env = pure (some names)) : EvS prog K f d (.Assign [.Tuple ts k tp] v pos) σ .next σ' := by
  intro c ok as os m s Q E R hq
  refine Assign_Tuple_swapped (h c ok as os m s _ E R fun bs os₁ m₁ u s₁ ru R₁ => ?_) (hs _) (hw _ ok.scope)
  obtain ⟨t, vs, rfl, hv, rs⟩ := ht.at ok R₁ ru
  have hn' : names.length = vs.size := by rw [hl, ← rs.length, Array.length_toList]
  rw [hn']
  refine wpAny_unpackItems_tuple ok.handled hv fun h' he => ?_
  exact hn.run hf ok (R₁.ext he) rs.reverse fun m' s' R' => hq _ _ _ _ _ rfl R'
theorem EvE.and1 {e : Expr} {pos : Pos} {x : AV} {op : BoolOp} (h : EvE prog K f d e σ x σ₁) : EvE prog K f d (.BoolOp op [e] pos) σ x σ₁ := by
  intro c ok as os m s Q E R hq
  exact BoolOp_one (h c ok as os m s Q E R hq)
theorem EvE.andC {e₁ e₂ : Expr} {rest : List Expr} {pos : Pos} {x y : AV} {k : Bool} (h : EvE prog K f d e₁ σ x σ₁) (ht : truthV x = some (true, k)) (h2 : EvE prog K f d (.BoolOp .And (e₂ :: rest) pos) σ₁ y σ₂) : EvE prog K f d (.BoolOp .And (e₁ :: e₂ :: rest) pos) σ y σ₂ := by
  intro c ok as os m s Q E R hq
  refine BoolOp_and (h c ok as os m s _ E R fun bs os₁ m₁ u s₁ ru R₁ => truth_of ht ru ?_)
  refine h2 c ok _ os₁ m₁ s₁ Q E R₁ fun bs₂ os₂ m₂ v s₂ rv R₂ => ?_
  rw [List.append_assoc] at rv R₂
  exact hq _ _ _ _ _ rv R₂
noncomputable def BltT (prog : Program) (K : Params → Frag) (d : Nat) (v : Value) (args : List AV) (objs : List AO) (x : AV) (objs' : List AO) : Prop :=
  ∀ (f : Fx) (c : Cx) (σ : S), Ok K f d c → σ.objs = objs → ∀ as os m s (vs : List Value) (Q : Value → Shared → Prop) (E : Value → Shared → Prop), At c as os m σ s → RVs as args vs →
    (∀ bs os' m' u s', RV (as ++ bs) x u → At c (as ++ bs) os' m' { σ with objs := objs' } s' → Q u s') → wpAny (model prog c.w) c.A (call v vs) Q E s
noncomputable def machineV : Value → Bool
  | .builtin _ => true
  | .type _ => true
  | _ => false
theorem keeps_machine {v : Value} (hv : machineV v = true) {M : Model} (h : Heap) : ∃ k, (k = Keeper.frame ∨ k = Keeper.machine ∨ k = Keeper.boundFrame) ∧ Looks M h (keeperOf v) k := by
  cases v <;> first | (cases hv; done) | exact ⟨.machine, .inr (.inl rfl), Looks.now⟩
theorem EvE.callV {fe : Expr} {es : List Expr} {pos : Pos} {b : Blt} {xs : List AV} {x : AV} {objs' : List AO} (h1 : EvE prog K f d fe σ (.blt b) σ₁) (hs : ∀ e ∈ es, notStar e = true)
    (hfe : ∀ env : Env, eval (.Call fe es [] pos) env = (do callWith pos (← eval fe env) [] (backTo pos (starEach es env)) (backToKw pos (keywordEach [] env))))
    (ha : EvA prog K f d es σ₁ xs σ₂) (hc : BltT prog K d b.value xs σ₂.objs x objs') : EvE prog K f d (.Call fe es [] pos) σ x { σ₂ with objs := objs' } := by
  intro c ok as os m s Q E R hq
  refine Call_ (h1 c ok as os m s _ E R fun bs os₁ m₁ v s₁ rv R₁ => ?_) (hfe _)
  obtain rfl : v = b.value := rv
  have hm : machineV b.value = true := by cases b <;> rfl
  refine callWith_at ok R₁ hs ha (P := fun _ => True) (fun h _ => keeps_machine hm h) fun bs₂ os₂ m₂ vs s₂ rvs R₂ => ⟨trivial, ?_⟩
  refine hc f c σ₂ ok rfl _ os₂ m₂ s₂ vs Q E R₂ rvs fun bs₃ os₃ m₃ v s₃ rv R₃ => ?_
  rw [List.append_assoc, List.append_assoc] at rv R₃
  exact hq _ _ _ _ _ rv R₃
/-- a method of a list -/
theorem EvE.callLm {o : Expr} {name : Str} {apos pos : Pos} {es : List Expr} {id : String} {i : Nat} {ao : AO} {zs : List AV} {xs : List AV} {x : AV} {objs' : List AO} (h1 : EvE prog K f d o σ (.obj i) σ₁) (hb : ∀ env : Env, attributeBase o name env (eval o env) = eval o env) (hs : ∀ e ∈ es, notStar e = true) (hl : es.length < 29)
    (hline : (apos.endLine == pos.line) = true) (slot : Slot "list" name id) (hty : typeOf (.builtin id) = pure (.type "method_descriptor")) (hi : σ₁.objs[i]? = some ao) (hao : ∀ P as o, RO P as ao o → ∃ vs n, o = listOf vs n) (ha : EvA prog K f d es σ₁ xs σ₂) (hc : BltT prog K d (.builtin id) (.obj i :: xs) σ₂.objs x objs') :
    EvE prog K f d (.Call (.Attribute o name apos) es [] pos) σ x { σ₂ with objs := objs' } := by
  intro c ok as os m s Q E R hq
  refine wpAny_Call_method (hb _) ?_ hline F.plainAttrs_list slot hty (h1 c ok as os m s _ E R fun bs os₁ m₁ v s₁ rv R₁ => ?_)
  · rw [starEach_len c.env pos hs]
    show (true && true && decide (es.length + 0 + 0 < 30)) = true
    simp
    lia
  obtain ⟨q, e1, rfl⟩ := rv
  obtain ⟨q', o, g1, _, _, g2, r⟩ := R₁.obj hi
  rw [e1] at g1; cases g1
  obtain ⟨vs, n, rfl⟩ := hao _ _ _ r
  refine ⟨⟨_, g2, rfl⟩, fun a e => ⟨_, by cases e; exact g2, rfl⟩, ?_⟩
  refine callWith_at ok R₁ hs ha (P := fun _ => True) (fun h _ => keeps_machine rfl h) fun bs₂ os₂ m₂ vs s₂ rvs R₂ => ⟨trivial, ?_⟩
  refine hc f c σ₂ ok rfl _ os₂ m₂ s₂ (.ref q :: vs) Q E R₂ (.cons ⟨q, getElem?_app e1, rfl⟩ rvs) fun bs₃ os₃ m₃ v s₃ rv R₃ => ?_
  rw [List.append_assoc, List.append_assoc] at rv R₃
  exact hq _ _ _ _ _ rv R₃
theorem blt_len {i : Nat} {ao : AO} {xs : List Int} {objs : List AO} (hi : objs[i]? = some ao) (hx : intsO ao = some xs) (hz : xs.length < 2 ^ 62) : BltT prog K d (.builtin "len") [.obj i] objs (.int xs.length) objs := by
  intro f c σ ok hσ as os m s vs Q E R rvs hq
  subst hσ
  cases rvs with
  | cons r rs =>
    cases rs
    obtain ⟨q, e1, rfl⟩ := r
    obtain ⟨q', o, g1, _, _, g2, r⟩ := R.obj hi
    rw [e1] at g1; cases g1
    obtain ⟨us, n, rfl, hi⟩ := intsO_of hx r
    exact len_ints_fit (vs := us.toList) (listOf_isList (n := n) (by simpa using g2)) hi hz (hq [] os m _ _ ⟨_, rfl⟩ (by rw [app_nil]; exact R.toks _))
noncomputable def isInt : AV → Bool
  | .cint _ => true
  | .int _ => true
  | .any => true
  | _ => false
theorem isInt_of {as : List Addr} {x : AV} {v : Value} (h : isInt x = true) (r : RV as x v) : ∃ i t, v = .int i t := by
  cases x <;> first | exact no_ h | (cases h; done) | skip
  · obtain ⟨t, e⟩ := r; exact ⟨_, t, e⟩
  · obtain ⟨t, e⟩ := r; exact ⟨_, t, e⟩
  · exact r
theorem blt_isiIB {x : AV} {objs : List AO} (hx : isInt x = true) : BltT prog K d (.builtin "isinstance") [x, .blt .bool] objs (.cb false) objs := by
  intro f c σ ok hσ as os m s vs Q E R rvs hq
  subst hσ
  cases rvs with
  | cons r rs =>
    cases rs with
    | cons r' rs =>
      cases rs
      obtain ⟨i, t, rfl⟩ := isInt_of hx r
      cases r'
      exact IsiPair.int_bool (hq [] os m _ _ rfl (by rw [app_nil]; exact R.toks _))
theorem blt_isiIS {x : AV} {objs : List AO} (hx : isInt x = true) : BltT prog K d (.builtin "isinstance") [x, .blt .str] objs (.cb false) objs := by
  intro f c σ ok hσ as os m s vs Q E R rvs hq
  subst hσ
  cases rvs with
  | cons r rs =>
    cases rs with
    | cons r' rs =>
      cases rs
      obtain ⟨i, t, rfl⟩ := isInt_of hx r
      cases r'
      exact IsiPair.int_str (hq [] os m _ _ rfl (by rw [app_nil]; exact R.toks _))
theorem blt_isiSS {x : Str} {objs : List AO} : BltT prog K d (.builtin "isinstance") [.str x, .blt .str] objs (.cb true) objs := by
  intro f c σ ok hσ as os m s vs Q E R rvs hq
  subst hσ
  cases rvs with
  | cons r rs =>
    cases rs with
    | cons r' rs =>
      cases rs
      obtain ⟨t, rfl⟩ := r
      cases r'
      exact IsiPair.str_str (hq [] os m _ _ rfl (by rw [app_nil]; exact R))
theorem blt_range1 {y : AV} {b : Int} {objs : List AO} (hy : y.i? = some b) : BltT prog K d (.type "range") [y] objs (.obj objs.length) (objs ++ [.rng 0 b 1]) := by
  intro f c σ ok hσ as os m s vs Q E R rvs hq
  subst hσ
  cases rvs with
  | cons r rs =>
    cases rs
    obtain ⟨t, rfl⟩ := r.int_of hy
    refine call_range_1 ?_
    obtain ⟨R₂, r⟩ := R.made (tk := s.toks + 1 + 1) (a := s.heap.objs.size) (o := { cls := .type "range", data := .fields #[.int 0 s.toks, .int b t, .int 1 (s.toks + 1)] }) (ao := .rng 0 b 1) (R.fr.push _) (News.push R.fr R.news _) R.lt ⟨_, _, _, rfl⟩
    exact hq _ _ _ _ _ r R₂
/-- what is appended to a list -/
noncomputable def appO (ao : AO) (x : AV) : Option AO := match ao with
  | .list xs => some (.list (xs ++ [x]))
  | .il xs => match x.i? with
    | some i => some (.il (xs ++ [i]))
    | none => none
  | _ => none
theorem appO_ro {P : Params} {as : List Addr} {ao ao' : AO} {x : AV} {v : Value} {us : Array Value} {n n' : Nat} (hx : appO ao x = some ao') (r : RO P as ao (listOf us n)) (r' : RV as x v) : RO P as ao' (listOf (us.push v) n') := by
  cases ao with
  | list xs =>
    cases hx
    obtain ⟨vs, n₁, e, rr⟩ := r
    have app : ∀ {xs : List AV} {vs : List Value}, RVs as xs vs → RVs as (xs ++ [x]) (vs ++ [v]) := fun h => by
      induction h with
      | nil => exact .cons r' .nil
      | cons r _ ih => exact .cons r ih
    cases e
    exact ⟨_, _, rfl, by simpa using app rr⟩
  | il xs =>
    unfold appO at hx
    cases e : x.i? with
    | none => rw [e] at hx; exact no_ hx
    | some k =>
      rw [e] at hx
      cases hx
      obtain ⟨vs, n₁, e', rr⟩ := r
      cases e'
      obtain ⟨t, rfl⟩ := r'.int_of e
      exact ⟨_, _, rfl, by simpa using rr.append (.cons k t .nil)⟩
  | _ => exact no_ hx
/-- the told objects after a store -/
theorem news_upd {h₀ h' : Heap} {L q : Addr} {x y : Obj} {l l' pre post : List (Addr × Obj)} (U : Upd q x y l l') (e : l = pre ++ (q, x) :: post) (N : News h₀ L h' (pre ++ (q, y) :: post)) : News h₀ L h' l' := by
  obtain ⟨pre', post', q1, q2, d1, d2⟩ := U.split
  intro p hp
  rw [q2] at hp
  by_cases e2 : p.1 = q
  · obtain rfl : p = (q, y) := by
      rcases List.mem_append.mp hp with h | h
      · exact absurd e2 (d1 p h)
      · rcases List.mem_cons.mp h with rfl | h
        · rfl
        · exact absurd e2 (d2 p h)
    exact N _ (List.mem_append_right _ (.head _))
  · have hold : p ∈ l := by
      rw [q1]
      rcases List.mem_append.mp hp with h | h
      · exact List.mem_append_left _ h
      · rcases List.mem_cons.mp h with rfl | h
        · exact absurd rfl e2
        · exact List.mem_append_right _ (.tail _ h)
    rw [e] at hold
    rcases List.mem_append.mp hold with h | h
    · exact N p (List.mem_append_left _ h)
    · rcases List.mem_cons.mp h with rfl | h
      · exact absurd rfl e2
      · exact N p (List.mem_append_right _ (.tail _ h))
theorem blt_append {i : Nat} {ao ao' : AO} {x : AV} {objs : List AO} (hi : objs[i]? = some ao) (hx : appO ao x = some ao') (hz : ∀ P as o, RO P as ao o → ∃ vs n, o = listOf vs n ∧ vs.size ≤ 60000) : BltT prog K d (.builtin "list.append") [.obj i, x] objs (.val .none) (objs.set i ao') := by
  intro f c σ ok hσ as os m s vs Q E R rvs hq
  subst hσ
  cases rvs with
  | cons r rs =>
    cases rs with
    | cons r' rs =>
      cases rs
      rename_i v
      obtain ⟨q, e1, rfl⟩ := r
      obtain ⟨q', o, g1, g1', _, g2, r⟩ := R.obj hi
      rw [e1] at g1; cases g1
      obtain ⟨us, n, rfl, hsz⟩ := hz _ _ _ r
      refine append_K R.fr R.news (upd_zip _ e1 g1' R.nodup) (fun h' F' N' => ?_) (Nat.le_trans hsz (by decide +kernel))
      suffices ∃ o', At c as (os.set i o') m { σ with objs := σ.objs.set i ao' } { s with heap := h' } by
        obtain ⟨o', h⟩ := this
        exact hq [] _ m _ _ rfl (by rw [app_nil]; exact h)
      refine ⟨_, R.upd (s' := { s with heap := h' }) rfl rfl F' N' ?_⟩
      exact appO_ro hx r r'
end
noncomputable def addR (c : Cx) (I : Addr) (o : Obj) : Cx := { c with rest := c.rest ++ [(I, o)] }
inductive Turns (prog : Program) (K : Params → Frag) (f : Fx) (d : Nat) (target : Expr) (body : List Stmt) (Kp : S → Prop) : List AV → S → Out → S → Prop
  | nil {τ : S} : Kp τ → Turns prog K f d target body Kp [] τ .next τ
  | next {x xs} {τ τ₁ τ₂ τ' : S} {o o' : Out} : Kp τ → EvAs prog K f d target x τ τ₁ → EvB prog K f d body τ₁ o τ₂ → (o = .next ∨ o = .cont) → Turns prog K f d target body Kp xs τ₂ o' τ' → Turns prog K f d target body Kp (x :: xs) τ o' τ'
  | brk {x xs} {τ τ₁ τ' : S} : Kp τ → EvAs prog K f d target x τ τ₁ → EvB prog K f d body τ₁ .brk τ' → Turns prog K f d target body Kp (x :: xs) τ .next τ'
  | ret {x xs v} {τ τ₁ τ' : S} : Kp τ → EvAs prog K f d target x τ τ₁ → EvB prog K f d body τ₁ (.ret v) τ' → Turns prog K f d target body Kp (x :: xs) τ (.ret v) τ'
section
variable {prog : Program} {K : Params → Frag} {f : Fx} {d : Nat} {σ σ₁ σ₂ σ₃ : S} {c : Cx} {as : List Addr} {os : List Obj} {m : Str → Option Value} {s : Shared} {I : Addr} {o o' : Obj}
theorem Ok.addR (ok : Ok K f d c) : Ok K f d (Mine.addR c I o) :=
  have hc : f.fn = false → ∃ C oC m₀ m₂, (Mine.addR c I o).comp = some (m₀, m₂) ∧ (Mine.addR c I o).env.locals = C ∧ (C, oC) ∈ (Mine.addR c I o).rest ∧ LCg.NsObj oC m₂ := fun h => by
    obtain ⟨C, oC, m₀, m₂, h1, h2, h3, h4⟩ := ok.cmp h
    exact ⟨C, oC, m₀, m₂, h1, h2, List.mem_append_left _ h3, h4⟩
  { ok with cmp := hc }
theorem At.pushR (R : At c as os m σ s) (hget : (s.heap.push o).get? s.heap.objs.size = some o) : At (addR c s.heap.objs.size o) as os m σ { s with heap := s.heap.push o } :=
  { gens := R.gens, os_ := R.os_, fr := R.fr.push _
    news := fun p hp => by
      rw [show (addR c s.heap.objs.size o).rest = c.rest ++ [(s.heap.objs.size, o)] from rfl, ← List.append_assoc] at hp
      rcases List.mem_append.mp hp with h | h
      · exact ⟨Heap.get?_push_of_some _ (R.news p h).1, (R.news p h).2⟩
      · rw [List.mem_singleton.mp h]
        exact ⟨hget, Nat.ne_of_gt R.fr.ns.lt, next_is_new R.fr⟩
    len := R.len, len' := R.len'
    nodup := by
      show (as ++ (c.rest ++ [(s.heap.objs.size, o)]).map (·.1)).Nodup
      rw [List.map_append, ← List.append_assoc, List.nodup_append]
      refine ⟨R.nodup, by simp, fun a ha b hb => ?_⟩
      simp at hb
      subst hb
      intro e
      exact not_mem_of_lt R.len R.lt (e ▸ ha)
    objs := R.objs, locs := R.locs, keys := R.keys, cells := R.cells, comp := R.comp }
theorem At.mem (R : At (addR c I o) as os m σ s) : s.heap.get? I = some o ∧ I ≠ c.L ∧ c.h₀.get? I = none :=
  R.news (I, o) (List.mem_append_right _ (List.mem_append_right _ (.head _)))
theorem At.chR {h' : Heap} {tk : Nat} (R : At (addR c I o) as os m σ s) (he : Heap.ExtBut I s.heap h') (ho : h'.get? I = some o') : At (addR c I o') as os m σ { s with heap := h', toks := tk } :=
  have mm := R.mem
  have nI : ∀ p ∈ as.zip os ++ c.rest, p.1 ≠ I := fun p hp e => by
    have nd := R.nodup
    rw [show (addR c I o).rest.map (·.1) = c.rest.map (·.1) ++ [I] from by show (c.rest ++ [(I, o)]).map (·.1) = _; rw [List.map_append]; rfl, ← List.append_assoc, List.nodup_append] at nd
    refine nd.2.2 p.1 ?_ I (.head _) e
    rcases List.mem_append.mp hp with h | h
    · exact List.mem_append_left _ (List.of_mem_zip (show (p.1, p.2) ∈ _ from h)).1
    · exact List.mem_append_right _ (List.mem_map_of_mem (f := (·.1)) h)
  { gens := R.gens, os_ := R.os_
    fr := LCg.fr_but R.fr (fun b o hb e => he b o (by simpa using hb) e) (Ne.symm mm.2.1) mm.2.2
    news := fun p hp => by
      rw [show (addR c I o').rest = c.rest ++ [(I, o')] from rfl, ← List.append_assoc] at hp
      rcases List.mem_append.mp hp with h | h
      · have := R.news p (by
          rw [show (addR c I o).rest = c.rest ++ [(I, o)] from rfl, ← List.append_assoc]
          exact List.mem_append_left _ h)
        exact ⟨he _ _ (nI p h) this.1, this.2⟩
      · rw [List.mem_singleton.mp h]
        exact ⟨ho, mm.2⟩
    len := R.len, len' := R.len'
    nodup := by
      have := R.nodup
      rw [show (addR c I o).rest.map (·.1) = (addR c I o').rest.map (·.1) from by show (c.rest ++ [(I, o)]).map (·.1) = (c.rest ++ [(I, o')]).map (·.1); rw [List.map_append, List.map_append]; rfl] at this
      exact this
    objs := R.objs, locs := R.locs, keys := R.keys, cells := R.cells, comp := R.comp }
theorem At.dropR {h' : Heap} (R : At (addR c I o) as os m σ s) (he : Heap.ExtBut I s.heap h') : At c as os m σ { s with heap := h' } :=
  have mm := R.mem
  have nI : ∀ p ∈ as.zip os ++ c.rest, p.1 ≠ I := fun p hp e => by
    have nd := R.nodup
    rw [show (addR c I o).rest.map (·.1) = c.rest.map (·.1) ++ [I] from by show (c.rest ++ [(I, o)]).map (·.1) = _; rw [List.map_append]; rfl, ← List.append_assoc, List.nodup_append] at nd
    refine nd.2.2 p.1 ?_ I (.head _) e
    rcases List.mem_append.mp hp with h | h
    · exact List.mem_append_left _ (List.of_mem_zip (show (p.1, p.2) ∈ _ from h)).1
    · exact List.mem_append_right _ (List.mem_map_of_mem (f := (·.1)) h)
  { gens := R.gens, os_ := R.os_
    fr := LCg.fr_but R.fr (fun b o hb e => he b o (by simpa using hb) e) (Ne.symm mm.2.1) mm.2.2
    news := fun p hp => by
      have := R.news p (by
        rw [show (addR c I o).rest = c.rest ++ [(I, o)] from rfl, ← List.append_assoc]
        exact List.mem_append_left _ hp)
      exact ⟨he _ _ (nI p hp) this.1, this.2⟩
    len := R.len, len' := R.len'
    nodup := by
      have := R.nodup
      rw [show (addR c I o).rest.map (·.1) = c.rest.map (·.1) ++ [I] from by show (c.rest ++ [(I, o)]).map (·.1) = _; rw [List.map_append]; rfl, ← List.append_assoc, List.nodup_append] at this
      exact this.1
    objs := R.objs, locs := R.locs, keys := R.keys, cells := R.cells, comp := R.comp }
theorem At.dropR' (R : At (addR c I o) as os m σ s) : At c as os m σ s := R.dropR (h' := s.heap) fun _ _ _ e => e
/-- what yields items -/
structure Src (prog : Program) (K : Params → Frag) (f : Fx) (d : Nat) (target : Expr) (c : Cx) (as : List Addr) (I : Addr) (Kp : S → Prop) (items : List AV) (It : Nat → Obj → Prop) : Prop where
  next : ∀ (k : Nat) (x : AV) bs os m σ (s : Shared) (o : Obj) (Q : Option Value → Shared → Prop) (E : Value → Shared → Prop), At (addR c I o) (as ++ bs) os m σ s → Kp σ → It k o → items[k]? = some x →
    (∀ v s' o', RV (as ++ bs) x v → At (addR c I o') (as ++ bs) os m σ s' → It (k + 1) o' → Q (some v) s') → wpAny (model prog c.w) c.A (pyNext (.ref I)) Q E s
  done : ∀ bs os m σ (s : Shared) (o : Obj) (Q : Option Value → Shared → Prop) (E : Value → Shared → Prop), At (addR c I o) (as ++ bs) os m σ s → Kp σ → It items.length o →
    (∀ s', At c (as ++ bs) os m σ s' → Q none s') → wpAny (model prog c.w) c.A (pyNext (.ref I)) Q E s
  self : ∀ (k : Nat) (o : Obj) (s : Shared) (Q : Value → Shared → Prop) (E : Value → Shared → Prop), s.heap.get? I = some o → It k o → Q (.ref I) s → wpAny (model prog c.w) c.A (pyIter (.ref I)) Q E s
  go : ∀ (k : Nat) (v : Value) (o : Obj) (s : Shared) (Q : Unit → Shared → Prop) (E : Value → Shared → Prop), s.heap.get? I = some o → It k o → Q () s → wpAny (model prog c.w) c.A (letOwnedTupleGo target (.ref I) v) Q E s
noncomputable def itemsO : AO → Option (List AV)
  | .list xs => some xs
  | .il xs => some (xs.map .int)
  | _ => none
theorem intsAre_rvs {as : List Addr} {vs : List Value} {xs : List Int} (h : IntsAre vs xs) : RVs as (xs.map .int) vs := by
  induction h with
  | nil => exact .nil
  | cons n t _ ih => exact .cons ⟨t, rfl⟩ ih
inductive SrcL (K : Params → Frag) (σ : S) : AV → List AV → Prop
  | told {i ao xs} : σ.objs[i]? = some ao → itemsO ao = some xs → SrcL K σ (.obj i) xs
  | kept {a xs} : (∀ P, ∃ vs : List Value, (K P).lookup a = some (⟨.type "list", none, .seq vs.toArray, #[]⟩ : Obj) ∧ RVs [] xs vs) → SrcL K σ (.val (.ref a)) xs
theorem SrcL.at {x : AV} {xs : List AV} {v : Value} (h : SrcL K σ x xs) (ok : Ok K f d c) (R : At c as os m σ s) (r : RV as x v) : ∃ t vs, v = .ref t ∧ s.heap.IsList t vs ∧ RVs as xs vs.toList := by
  cases h with
  | @told i ao xs h hx =>
    obtain ⟨a, o, g1, _, _, g2, r'⟩ := R.obj h
    obtain ⟨a', e, rfl⟩ := r
    rw [g1] at e; cases e
    cases ao <;> first | (cases hx; done) | skip
    · cases hx
      obtain ⟨vs, n, rfl, rr⟩ := r'
      exact ⟨a, vs, rfl, listOf_isList g2, rr⟩
    · cases hx
      obtain ⟨vs, n, rfl, rr⟩ := r'
      exact ⟨a, vs, rfl, listOf_isList g2, intsAre_rvs rr⟩
  | kept h =>
    obtain rfl : v = .ref _ := r
    obtain ⟨vs, e, rs⟩ := h c.w.params
    exact ⟨_, vs.toArray, rfl, ⟨_, R.fr.keep _ _ (ok.kin _ _ e), rfl, _, rfl⟩, rs.le .nil⟩
noncomputable def plainTarget : Expr → Bool
  | .Name .. => true
  | .Tuple .. => true
  | _ => false
noncomputable def isListIter (ax : Addr) (k : Nat) (o : Obj) : Prop := o.cls = .type "list_iterator" ∧ o.data = .fields #[.ref ax, .int (k : Nat) 0]
theorem src_list {target : Expr} {x : AV} {xs : List AV} {ax : Addr} (ok : Ok K f d c) (ht : plainTarget target = true) (hx : RV as x (.ref ax)) : Src prog K f d target c as I (fun τ => SrcL K τ x xs) xs (isListIter ax) where
  next := fun k y bs os m σ s o Q E R kp hI hy hq => by
    obtain ⟨t, vs, e, hl, rs⟩ := kp.at ok.addR R hx.up
    cases e
    obtain ⟨v, hv, rv⟩ := rs.get k y hy
    refine wpAny_pyNext_list_item ⟨o, R.mem.1, hI.1, hI.2⟩ hl (by rw [← Array.getElem?_toList]; exact hv) fun h' hit hs => ?_
    obtain ⟨o', ho', h1, h2⟩ := hit
    exact hq v _ o' rv (R.chR (tk := s.toks) hs.extBut ho') ⟨h1, h2⟩
  done := fun bs os m σ s o Q E R kp hI hq => by
    obtain ⟨t, vs, e, hl, rs⟩ := kp.at ok.addR R hx.up
    cases e
    refine wpAny_pyNext_list_end ok.handled ⟨o, R.mem.1, hI.1, hI.2⟩ hl (by
      rw [← Array.getElem?_toList, List.getElem?_eq_none_iff, rs.length]
      exact Nat.le_refl _) fun h' he => hq _ (R.dropR he)
  self := fun k o s Q E ho hI hq => wpAny_pyIter_listiter (i := k) ⟨o, ho, hI.1, hI.2⟩ hq
  go := fun k v o s Q E ho hI hq => by
    cases target <;> first | (cases ht; done) | skip
    · exact wpAny_pure hq
    · cases v <;> first | exact wpAny_pure hq | exact wpAny_letOwnedTupleGo_listiter ⟨o, ho, hI.1, hI.2⟩ hq
noncomputable def rangeAV (a k : Int) : Nat → Nat → List AV
  | _, 0 => []
  | i, n + 1 => .int (a + (i : Int) * k) :: rangeAV a k (i + 1) n
theorem rangeAV_len {a k : Int} : ∀ {n i : Nat}, (rangeAV a k i n).length = n
  | 0, _ => rfl
  | n + 1, i => by simp [rangeAV, rangeAV_len]
theorem rangeAV_get {a k : Int} : ∀ {n i j : Nat} {x : AV}, (rangeAV a k i n)[j]? = some x → x = .int (a + ((i + j : Nat) : Int) * k) ∧ j < n
  | 0, i, j, x, h => by simp [rangeAV] at h
  | n + 1, i, 0, x, h => by simp [rangeAV] at h; exact ⟨by rw [← h]; simp, Nat.succ_pos _⟩
  | n + 1, i, j + 1, x, h => by
    obtain ⟨h1, h2⟩ := rangeAV_get (n := n) (i := i + 1) (j := j) (by simpa [rangeAV] using h)
    exact ⟨by rw [h1, show i + 1 + j = i + (j + 1) by lia], by lia⟩
noncomputable def isRangeIter (a k : Int) (n : Nat) (j : Nat) (o : Obj) : Prop := o = { cls := .type "range_iterator", data := .fields #[rawInt (a + (j : Int) * k), rawInt ((n : Int) - (j : Int)), rawInt k] }
theorem src_range {x : Str} {px : Pos} {a k : Int} {n : Nat} (ok : Ok K f d c) : Src prog K f d (.Name x px) c as I (fun _ => True) (rangeAV a k 0 n) (isRangeIter a k n) where
  next := fun j y bs os m σ s o Q E R kp hI hy hq => by
    obtain ⟨rfl, hj⟩ := rangeAV_get hy
    refine (Walks.range (prog := prog) (w := c.w) ok.handled I a k n).item j s Q E hj (by rw [show IsRangeIter s.heap I _ _ _ ↔ s.heap.get? I = some _ from Iff.rfl, R.mem.1, hI]) fun v h' tk hv hst hk => ?_
    obtain ⟨t, rfl⟩ := hv
    refine hq _ _ _ ⟨t, by rw [Nat.zero_add]⟩ (R.chR (tk := tk) (fun b o hb e => hk b o (by simpa using hb) e) hst) rfl
  done := fun bs os m σ s o Q E R kp hI hq => by
    rw [rangeAV_len] at hI
    refine (Walks.range (prog := prog) (w := c.w) ok.handled I a k n).done s Q E (by rw [show IsRangeIter s.heap I _ _ _ ↔ s.heap.get? I = some _ from Iff.rfl, R.mem.1, hI]) fun h' tk hk => ?_
    exact hq _ ((R.dropR (fun b o hb e => hk b o (by simpa using hb) e)).toks tk)
  self := fun j o s Q E ho hI hq => wpAny_pyIter_rangeiter (show IsRangeIter s.heap I _ _ _ from ho.trans (congrArg some hI)) hq
  go := fun j v o s Q E ho hI hq => wpAny_pure hq
inductive While (prog : Program) (K : Params → Frag) (f : Fx) (d : Nat) (test : Expr) (body : List Stmt) : Nat → S → Out → S → Prop
  | done {n} {τ τ' : S} : EvT prog K f d test τ false τ' → While prog K f d test body n τ .next τ'
  | turn {n} {τ τ₁ τ₂ τ' : S} {o o' : Out} : EvT prog K f d test τ true τ₁ → EvB prog K f d body τ₁ o τ₂ → (o = .next ∨ o = .cont) → While prog K f d test body n τ₂ o' τ' → While prog K f d test body (n + 1) τ o' τ'
  | ret {n v} {τ τ₁ τ' : S} : EvT prog K f d test τ true τ₁ → EvB prog K f d body τ₁ (.ret v) τ' → While prog K f d test body n τ (.ret v) τ'
inductive WInv (prog : Program) (K : Params → Frag) (f : Fx) (d : Nat) (test : Expr) (body : List Stmt) (c : Cx) (as : List Addr) (out : Out) (σ' : S) (n : Nat) (s : Shared) : Prop
  | mk (bs : List Addr) (os : List Obj) (m : Str → Option Value) (τ : S) (R : At c (as ++ bs) os m τ s) (W : While prog K f d test body n τ out σ') : WInv prog K f d test body c as out σ' n s
theorem EvS.while {test : Expr} {body : List Stmt} {pos : Pos} {n : Nat} {out : Out} {σ' : S} (h : While prog K f d test body n σ out σ') : EvS prog K f d (.While test body [] pos) σ out σ' := by
  intro c ok as os m s Q E R hq
  refine wpAny_While ?_
  refine codeAny_whileLoop (WInv prog K f d test body c as out σ') ?_ n (.mk [] os m σ (by rw [app_nil]; exact R) h)
  rintro n s ⟨bs, os, m, τ, R, W⟩
  cases W with
  | done ht =>
    refine ht c ok _ os m s _ _ R fun bs₂ os₂ m₂ s₂ R₂ => ?_
    rw [List.append_assoc] at R₂
    simp only [Bool.false_eq_true, if_false]
    exact wpAny_execs_nil (hq _ _ _ _ _ rfl R₂)
  | @turn n' _ _ _ _ _ _ ht hb hn W' =>
    refine ht c ok _ os m s _ _ R fun bs₂ os₂ m₂ s₂ R₂ => ?_
    simp only [if_true]
    refine hb c ok _ os₂ m₂ s₂ _ _ R₂ fun bs₃ os₃ m₃ u s₃ ru R₃ => ?_
    rw [List.append_assoc, List.append_assoc] at ru R₃
    have : ∃ k, k < n' + 1 ∧ WInv prog K f d test body c as out σ' k s₃ := ⟨n', Nat.lt_succ_self _, .mk _ _ _ _ R₃ W'⟩
    rcases hn with rfl | rfl
    · obtain rfl : u = .next := ru; exact this
    · obtain rfl : u = .cont := ru; exact this
  | ret ht hb =>
    refine ht c ok _ os m s _ _ R fun bs₂ os₂ m₂ s₂ R₂ => ?_
    simp only [if_true]
    refine hb c ok _ os₂ m₂ s₂ _ _ R₂ fun bs₃ os₃ m₃ u s₃ ru R₃ => ?_
    rw [List.append_assoc, List.append_assoc] at ru R₃
    obtain ⟨w, rfl, rw⟩ := ru
    exact hq _ _ _ _ _ ⟨w, rfl, rw⟩ R₃
end
noncomputable def relab1 (cs : Scope) (n : Str) (k : NameKind) : NameKind := match k with
  | .free => match cs.kind with
    | .function => match look n cs.names with
      | some .cell => .cell
      | _ => .free
    | _ => .free
  | k => k
noncomputable def relabN (cs : Scope) (l : List (Str × NameKind)) : List (Str × NameKind) := l.map fun p => (p.1, relab1 cs p.1 p.2)
noncomputable def relab (cs scope : Scope) : Scope := { scope with names := relabN cs scope.names }
theorem relabN_eq {cs : Scope} {env : Env} (h : env.scope = cs) (l : List (Str × NameKind)) : (l.map fun (n, k) => if (k == .free && env.scope.kind == .function && env.kindOf n == some .cell) then (n, NameKind.cell) else (n, k)) = relabN cs l := by
  unfold relabN
  congr 1
  funext ⟨n, k⟩
  have e : env.kindOf n = look n cs.names := by rw [look_lookup, ← h]; rfl
  dsimp only
  rw [e, h]
  unfold relab1
  cases k <;> first | rfl | skip
  cases cs.kind <;> first | rfl | skip
  cases look n cs.names with
  | none => rfl
  | some k => cases k <;> rfl
theorem relab_eq {cs scope : Scope} {env : Env} (h : env.scope = cs) : relabel scope env = relab cs scope := by
  unfold relabel relab
  rw [relabN_eq h]
theorem closure_of {env : Env} : ∀ (l : List (Str × NameKind)) (acc : List (Str × Addr)), (∀ x, (x, NameKind.free) ∈ l → ∃ a, env.cells.lookup x = some a) → (∀ p ∈ acc, env.cells.lookup p.1 = some p.2) →
    ∃ cl, ((forIn l acc fun (p : Str × NameKind) cs => match p with
      | (name, kind) => if (kind == .free) = true then do let a ← cellOf env name; pure (ForInStep.yield ((name, a) :: cs)) else pure (ForInStep.yield cs)) : Sem (List (Str × Addr))) = pure cl ∧ (∀ p ∈ cl, env.cells.lookup p.1 = some p.2) ∧ (∀ x, (x, NameKind.free) ∈ l ∨ x ∈ acc.map (·.1) → x ∈ cl.map (·.1))
  | [], acc, _, h => ⟨acc, rfl, h, fun x hx => by rcases hx with hx | hx; cases hx; exact hx⟩
  | (n, k) :: r, acc, hf, h => by
    rw [List.forIn_cons]
    by_cases e : (k == NameKind.free) = true
    · have : k = .free := by simpa using e
      subst this
      obtain ⟨a, ha⟩ := hf n (.head _)
      obtain ⟨cl, h1, h2, h3⟩ := closure_of r ((n, a) :: acc) (fun x hx => hf x (.tail _ hx)) (fun p hp => by
        rcases List.mem_cons.mp hp with rfl | hp
        · exact ha
        · exact h p hp)
      refine ⟨cl, ?_, h2, fun x hx => h3 x ?_⟩
      · rw [← h1]
        simp only [cellOf, ha]
        rfl
      · rcases hx with hx | hx
        · rcases List.mem_cons.mp hx with e | hx
          · cases e; exact .inr (.head _)
          · exact .inl hx
        · exact .inr (.tail _ hx)
    · obtain ⟨cl, h1, h2, h3⟩ := closure_of r acc (fun x hx => hf x (.tail _ hx)) h
      refine ⟨cl, ?_, h2, fun x hx => h3 x ?_⟩
      · rw [← h1]
        simp only [e]
        rfl
      · rcases hx with hx | hx
        · rcases List.mem_cons.mp hx with e' | hx
          · cases e'; exact absurd rfl e
          · exact .inl hx
        · exact .inr hx
theorem lookup_of_all {x : Str} {g : Str → Option Addr} : ∀ {cl : List (Str × Addr)}, (∀ p ∈ cl, g p.1 = some p.2) → x ∈ cl.map (·.1) → cl.lookup x = g x
  | [], _, h => nomatch h
  | (y, a) :: r, h, hx => by
    rw [List.lookup_cons]
    cases e : x == y with
    | true =>
      have : x = y := by simpa using e
      subst this
      exact (h _ (.head _)).symm
    | false =>
      refine lookup_of_all (fun p hp => h p (.tail _ hp)) ?_
      rcases List.mem_cons.mp hx with e' | hx
      · have e' : x = y := e'
        subst e'
        simp at e
      · exact hx
theorem closureFor_of {scope : Scope} {env : Env} (h : ∀ x, (x, NameKind.free) ∈ scope.names → ∃ a, env.cells.lookup x = some a) : ∃ cl, closureFor scope env = pure cl ∧ ∀ x, (x, NameKind.free) ∈ scope.names → cl.lookup x = env.cells.lookup x := by
  obtain ⟨cl, h1, h2, h3⟩ := closure_of scope.names [] h (fun _ h => nomatch h)
  refine ⟨cl, ?_, fun x hx => lookup_of_all (g := fun x => env.cells.lookup x) h2 (h3 x (.inl hx))⟩
  unfold closureFor
  dsimp only
  refine (congrArg (fun t => t >>= fun cs => pure cs) h1).trans ?_
  rfl
section
variable {prog : Program} {K : Params → Frag} {f : Fx} {d : Nat} {σ σ₁ σ₂ σ₃ : S} {c : Cx} {as : List Addr} {os : List Obj} {m : Str → Option Value} {s : Shared} {I C D : Addr} {o o' oC oD : Obj}
theorem At.perm {r : List (Addr × Obj)} (R : At c as os m σ s) (h : c.rest.Perm r) : At { c with rest := r } as os m σ s :=
  { gens := R.gens, os_ := R.os_, fr := R.fr
    news := fun p hp => R.news p (by
      rcases List.mem_append.mp hp with h' | h'
      · exact List.mem_append_left _ h'
      · exact List.mem_append_right _ (h.mem_iff.mpr h'))
    len := R.len, len' := R.len'
    nodup := ((h.map (·.1)).append_left as).nodup_iff.mp R.nodup
    objs := R.objs, locs := R.locs, keys := R.keys, cells := R.cells, comp := R.comp }
theorem At.swap (R : At (addR (addR c I o) D oD) as os m σ s) : At (addR (addR c D oD) I o) as os m σ s :=
  R.perm (r := (addR (addR c D oD) I o).rest) (by
    show ((c.rest ++ [(I, o)]) ++ [(D, oD)]).Perm ((c.rest ++ [(D, oD)]) ++ [(I, o)])
    rw [List.append_assoc, List.append_assoc]
    exact List.Perm.append_left _ (.swap ..))
theorem At.rot (R : At (addR (addR (addR c I o) D oD) C oC) as os m σ s) : At (addR (addR (addR c D oD) C oC) I o) as os m σ s :=
  R.perm (r := (addR (addR (addR c D oD) C oC) I o).rest) (by
    show (((c.rest ++ [(I, o)]) ++ [(D, oD)]) ++ [(C, oC)]).Perm (((c.rest ++ [(D, oD)]) ++ [(C, oC)]) ++ [(I, o)])
    simp only [List.append_assoc]
    exact List.Perm.append_left _ ((List.Perm.swap ..).trans (.cons _ (.swap ..))))
theorem At.takeR {ao : AO} (R : At (addR c D oD) as os m σ s) (r : RO c.w.params (as ++ [D]) ao oD) : At c (as ++ [D]) (os ++ [oD]) m { σ with objs := σ.objs ++ [ao] } s ∧ RV (as ++ [D]) (.obj σ.objs.length) (.ref D) := by
  have R' := R.dropR'
  refine ⟨R'.new rfl rfl R'.fr (fun p hp => ?_) ?_ r, D, ?_, rfl⟩
  · rcases List.mem_cons.mp hp with rfl | hp
    · exact R.mem
    · exact R'.news p hp
  · intro hm
    have nd := R.nodup
    rw [show (addR c D oD).rest.map (·.1) = c.rest.map (·.1) ++ [D] from by show (c.rest ++ [(D, oD)]).map (·.1) = _; rw [List.map_append]; rfl, ← List.append_assoc, List.nodup_append] at nd
    exact nd.2.2 D hm D (.head _) rfl
  · rw [R.len', List.getElem?_append_right (Nat.le_refl _), Nat.sub_self]
    rfl
inductive EvIfs (prog : Program) (K : Params → Frag) (g : Fx) (d : Nat) : List Expr → S → Bool → S → Prop
  | nil {τ : S} : EvIfs prog K g d [] τ true τ
  | one {ct b} {τ τ' : S} : EvT prog K g d ct τ b τ' → EvIfs prog K g d [ct] τ b τ'
inductive CTurns (prog : Program) (K : Params → Frag) (g : Fx) (d : Nat) (x : Str) (cs : List (Str × Nat)) (ifs : List Expr) (elt : Expr) (Kp : List AO → Prop) : List AV → List AO → List AV → List AO → Prop
  | nil {ob : List AO} : Kp ob → CTurns prog K g d x cs ifs elt Kp [] ob [] ob
  | keep {v vs y ys} {ob ob' : List AO} {τ₁ τ₂ : S} : Kp ob → EvIfs prog K g d ifs ⟨ob, [(x, some v)], cs⟩ true τ₁ → EvE prog K g d elt τ₁ y τ₂ → CTurns prog K g d x cs ifs elt Kp vs τ₂.objs ys ob' → CTurns prog K g d x cs ifs elt Kp (v :: vs) ob (y :: ys) ob'
  | skip {v vs ys} {ob ob' : List AO} {τ₁ : S} : Kp ob → EvIfs prog K g d ifs ⟨ob, [(x, some v)], cs⟩ false τ₁ → CTurns prog K g d x cs ifs elt Kp vs τ₁.objs ys ob' → CTurns prog K g d x cs ifs elt Kp (v :: vs) ob ys ob'
/-- a turn, taken apart -/
inductive CStep (prog : Program) (K : Params → Frag) (g : Fx) (d : Nat) (x : Str) (cs : List (Str × Nat)) (ifs : List Expr) (elt : Expr) (Kp : List AO → Prop) (v : AV) (vs : List AV) (ob : List AO) (zs : List AV) (ob' : List AO) : Prop
  | keep (y : AV) (ys : List AV) (τ₁ τ₂ : S) (h1 : EvIfs prog K g d ifs ⟨ob, [(x, some v)], cs⟩ true τ₁) (h2 : EvE prog K g d elt τ₁ y τ₂) (T : CTurns prog K g d x cs ifs elt Kp vs τ₂.objs ys ob') (hz : zs = y :: ys) : CStep prog K g d x cs ifs elt Kp v vs ob zs ob'
  | skip (τ₁ : S) (h1 : EvIfs prog K g d ifs ⟨ob, [(x, some v)], cs⟩ false τ₁) (T : CTurns prog K g d x cs ifs elt Kp vs τ₁.objs zs ob') : CStep prog K g d x cs ifs elt Kp v vs ob zs ob'
theorem CTurns.inv {g : Fx} {x : Str} {cs : List (Str × Nat)} {ifs : List Expr} {elt : Expr} {Kp : List AO → Prop} {v : AV} {vs zs : List AV} {ob ob' : List AO} (T : CTurns prog K g d x cs ifs elt Kp (v :: vs) ob zs ob') : Kp ob ∧ CStep prog K g d x cs ifs elt Kp v vs ob zs ob' := by
  cases T with
  | keep k h1 h2 T' => exact ⟨k, .keep _ _ _ _ h1 h2 T' rfl⟩
  | skip k h1 T' => exact ⟨k, .skip _ h1 T'⟩
theorem CTurns.end_ {g : Fx} {x : Str} {cs : List (Str × Nat)} {ifs : List Expr} {elt : Expr} {Kp : List AO → Prop} {zs : List AV} {ob ob' : List AO} (T : CTurns prog K g d x cs ifs elt Kp [] ob zs ob') : Kp ob ∧ zs = [] ∧ ob' = ob := by
  cases T with
  | nil k => exact ⟨k, rfl, rfl⟩
/-- the inner frame -/
noncomputable def inner (scope : Scope) (cl : List (Str × Addr)) (C : Addr) (c : Cx) (m m₂ : Str → Option Value) : Cx := { c with env := compEnvC scope cl C c.env, comp := some (m, m₂) }
theorem append_lst {prog : Program} {w : World} {A : Around} {E : Value → Shared → Prop} {s : Shared} {D : Addr} {vs : List Value} {u : Value} {Q : Value → Shared → Prop} (ho : s.heap.get? D = some (LCg.lst vs)) (hsz : vs.length ≤ sizeLine)
    (h : ∀ h', Heap.SameBut D s.heap h' → h'.get? D = some (LCg.lst (vs ++ [u])) → Q .none { s with heap := h' }) : wpAny (model prog w) A (call (.builtin "list.append") [.ref D, u]) Q E s :=
  append_at (hsz := by rw [List.size_toArray]; exact hsz) ho fun h' hs hD => h h' hs (hD.trans (congrArg some (LCg.lst_snoc vs u)))
theorem RVs.app {as : List Addr} {xs ys : List AV} {vs us : List Value} (h : RVs as xs vs) (g : RVs as ys us) : RVs as (xs ++ ys) (vs ++ us) := by
  induction h with
  | nil => exact g
  | cons r _ ih => exact .cons r ih
structure CompOk (f g : Fx) (scope : Scope) (x : Str) (cs : List (Str × Nat)) (cells : List (Str × Nat)) : Prop where
  kind : scope.kind = .function
  cell : ∀ y ∈ scope.names, y.2 ≠ .cell
  names : ∀ y ∈ scope.names, y.2 = .local → look y.1 scope.names = some .local
  x : look x scope.names = some .local
  g : g = ⟨relab f.cs scope, false⟩
  fn : f.fn = true
  free : ∀ y, (y, NameKind.free) ∈ scope.names → ∃ i, (y, i) ∈ cells
  cs : ∀ p ∈ cs, p ∈ cells ∧ (p.1, NameKind.free) ∈ scope.names
theorem inner_ok {g : Fx} {scope : Scope} {x : Str} {cs cells : List (Str × Nat)} {cl : List (Str × Addr)} {C : Addr} {oC : Obj} {m₂ : Str → Option Value} (ok : Ok K f d c) (co : CompOk f g scope x cs cells) (hC : (C, oC) ∈ c.rest) (hn : LCg.NsObj oC m₂) : Ok K g d (inner scope cl C c m m₂) :=
  have hsc : relabel scope c.env = g.cs := by rw [relab_eq ok.scope, co.g]
  { scope := hsc, globals := ok.globals, builtins := ok.builtins, kin := ok.kin, top := ok.top, kind := by rw [co.g]; exact co.kind, depth := ok.depth, units := ok.units, handled := ok.handled
    fn := fun h => by rw [co.g] at h; cases h
    cmp := fun _ => ⟨C, oC, m, m₂, rfl, rfl, hC, hn⟩ }
theorem inner_at {g : Fx} {scope : Scope} {x : Str} {cs : List (Str × Nat)} {cl : List (Str × Addr)} {C : Addr} {m₂ : Str → Option Value} {av : AV} {v : Value} (R : At c as os m σ s) (co : CompOk f g scope x cs σ.cells) (hcl : ∀ y, (y, NameKind.free) ∈ scope.names → cl.lookup y = c.env.cells.lookup y)
    (hmx : m₂ x = some v) (rv : RV as av v) : At (inner scope cl C c m m₂) as os m ⟨σ.objs, [(x, some av)], cs⟩ s :=
  { gens := R.gens, os_ := R.os_, fr := R.fr, news := R.news, len := R.len, len' := R.len', nodup := R.nodup, objs := R.objs
    locs := fun z av hz => by
      rcases List.mem_cons.mp hz with e | hz
      · cases e; exact ⟨v, hmx, rv⟩
      · cases hz
    keys := by simp
    cells := fun z i hz => by
      obtain ⟨h1, h2⟩ := co.cs _ hz
      obtain ⟨a, h3, h4⟩ := R.cells z i h1
      exact ⟨a, (hcl z h2).trans h3, h4⟩
    comp := fun p e => by cases e; rfl }
theorem inner_back {scope : Scope} {cl : List (Str × Addr)} {C : Addr} {m₂ m₅ : Str → Option Value} {bs : List Addr} {os' : List Obj} {τ : S} {s₅ : Shared} (R : At c as os m σ s) (R₅ : At (inner scope cl C c m m₂) (as ++ bs) os' m₅ τ s₅) : At c (as ++ bs) os' m { σ with objs := τ.objs } s₅ := by
  have e : m₅ = m := R₅.comp _ rfl
  subst e
  exact { gens := R₅.gens, os_ := R₅.os_, fr := R₅.fr, news := R₅.news, len := R₅.len, len' := R₅.len', nodup := R₅.nodup, objs := R₅.objs
          locs := fun z av hz => let ⟨u, h1, h2⟩ := R.locs z av hz; ⟨u, h1, h2.up⟩
          keys := R.keys
          cells := fun z i hz => let ⟨a, h1, h2⟩ := R.cells z i hz; ⟨a, h1, getElem?_app h2⟩
          comp := R.comp }
theorem inner_tests {g : Fx} {ifs : List Expr} {b : Bool} {τ τ₁ : S} {Q : Bool → Shared → Prop} {E : Value → Shared → Prop} (ok : Ok K g d c) (R : At c as os m τ s) (he : EvIfs prog K g d ifs τ b τ₁) (hq : ∀ bs₁ os₁ m₁ s₁, At c (as ++ bs₁) os₁ m₁ τ₁ s₁ → Q b s₁) :
    wpAny (model prog c.w) c.A (forIn ifs true fun c' r => if r = true then do let ok ← isTrue c' c.env (eval c' c.env); pure (ForInStep.yield ok) else pure (ForInStep.yield r)) Q E s := by
  cases he with
  | nil => exact wpAny_tests_nil (hq [] os m s (by rw [app_nil]; exact R))
  | one hT => exact wpAny_tests_one (hT _ ok _ os m s _ _ R fun bs₁ os₁ m₁ s₁ R₅ => hq bs₁ os₁ m₁ s₁ R₅)
/-- what is true ahead of each turn -/
inductive CInv (prog : Program) (K : Params → Frag) (f g : Fx) (d : Nat) (x : Str) (cs : List (Str × Nat)) (ifs : List Expr) (elt : Expr) (Kp : List AO → Prop) (items : List AV) (It : Nat → Obj → Prop) (c : Cx) (as : List Addr) (I D C : Addr) (σ : S) (ys : List AV) (ob' : List AO) (n : Nat) (s : Shared) : Prop
  | mk (k : Nat) (bs : List Addr) (os : List Obj) (m : Str → Option Value) (ob : List AO) (xs : List AV) (vs : List Value) (zs : List AV) (o oC : Obj) (m' : Str → Option Value) (hn : n = items.length - k) (hk : k ≤ items.length) (hvl : vs.length ≤ k) (R : At (addR (addR (addR c D (LCg.lst vs)) C oC) I o) (as ++ bs) os m { σ with objs := ob } s)
    (hI : It k o) (hoC : LCg.NsObj oC m') (hvs : RVs (as ++ bs) xs vs) (T : CTurns prog K g d x cs ifs elt Kp (items.drop k) ob zs ob') (hy : ys = xs ++ zs) : CInv prog K f g d x cs ifs elt Kp items It c as I D C σ ys ob' n s
theorem comp_run {g : Fx} {scope : Scope} {x : Str} {px pos : Pos} {iter elt : Expr} {ifs : List Expr} {cs : List (Str × Nat)} {Kp : List AO → Prop} {items ys : List AV} {It : Nat → Obj → Prop} {ob' : List AO} {ao : AO} {cl : List (Str × Addr)} {Q : Value → Shared → Prop} {E : Value → Shared → Prop}
    (ok : Ok K f d c) (co : CompOk f g scope x cs σ.cells) (W : ∀ D oD C oC, Src prog K f d (.Name x px) (addR (addR c D oD) C oC) as I (fun τ => Kp τ.objs) items It) (hcl : ∀ y, (y, NameKind.free) ∈ scope.names → cl.lookup y = c.env.cells.lookup y)
    (ht : CTurns prog K g d x cs ifs elt Kp items σ.objs ys ob') (R : At (addR c I o) as os m σ s) (hI : It 0 o) (hz : items.length ≤ sizeLine) (hao : WkO (.list ys) ao)
    (hq : ∀ bs os' m' v s', RV (as ++ bs) (.obj ob'.length) v → At c (as ++ bs) os' m' { σ with objs := ob' ++ [ao] } s' → Q v s') :
    wpAny (model prog c.w) c.A (newList []) (fun acc s₃ => wpAny (model prog c.w) c.A (newFunctionEnv scope c.env.globals cl [] c.env.qual none .none (some c.env)) (fun cenv s₄ =>
      codeAny (model prog c.w) c.A (.compStart (.ListComp elt [⟨.Name x px, iter, ifs, 0⟩] scope pos) 0 (.ref I) acc { cenv with scope := relabel scope c.env }) (compPost (model prog c.w) c.A E none Q acc cenv.locals) s₄) E s₃) E s := by
  refine wpAny_newObj_type (wpAny_newFunctionEnv co.cell (by intro y hy; simp at hy) (fun h₁ hns₁ hsb₁ => ?_) co.kind)
  dsimp only at hns₁ hsb₁ ⊢
  have R1 := R.pushR (o := LCg.lst []) (Heap.get?_push_size _ rfl)
  generalize hH2 : s.heap.push { cls := .type "list", dict := none, data := .seq ([] : List Value).toArray } = H2 at hns₁ hsb₁ ⊢
  have R1 : At (addR (addR c I o) s.heap.objs.size (LCg.lst [])) as os m σ { s with heap := H2 } := by rw [← hH2]; exact R1
  have R2 := R1.pushR (o := { cls := .type "dict", data := .dict #[] }) (Heap.get?_push_size _ rfl)
  obtain ⟨oC₀, heC₀, hoC₀⟩ := LCg.ns_obj hns₁
  have R3 := R2.chR (tk := s.toks + ([] : List (Str × Value)).length) hsb₁.extBut heC₀
  have R4 := R3.rot
  clear R1 R2 R3
  generalize s.heap.objs.size = D at R4 ⊢
  have hxl : scope.names.lookup x = some .local := by rw [← look_lookup]; exact co.x
  have loop : ∀ s₃ : Shared, s₃ = { s with heap := h₁, toks := s.toks + ([] : List (Str × Value)).length } →
      codeAny (model prog c.w) c.A (.compLoop (.ListComp elt [⟨.Name x px, iter, ifs, 0⟩] scope pos) 0 (.ref I) (.ref D) (compEnvC scope cl H2.objs.size c.env)) (compPost (model prog c.w) c.A E none Q (.ref D) H2.objs.size) s₃ := by
    rintro s₃ rfl
    generalize H2.objs.size = C at R4 ⊢
    refine codeAny_compLoop_tests (CInv prog K f g d x cs ifs elt Kp items It c as I D C σ ys ob') ?_ (items.length - 0)
      (.mk 0 [] os m σ.objs [] [] ys o oC₀ _ rfl (Nat.zero_le _) (Nat.zero_le _) (by rw [app_nil]; exact R4) hI hoC₀ .nil ht rfl)
    rintro n s ⟨k, bs, os, m, ob, xs, vs, zs, o, oC, m', rfl, hk, hvl, R, hI, hoC, hvs, T, rfl⟩
    by_cases hlt : k < items.length
    · have hx : items[k]? = some items[k] := List.getElem?_eq_getElem hlt
      rw [List.drop_eq_getElem_cons hlt] at T
      have hT := T.inv
      refine (W D _ C oC).next k _ bs os m _ s o _ _ R hT.1 hI hx fun v s₁ o₁ rv R₁ hI₁ => ?_
      dsimp only
      have R₂ := R₁.swap
      refine wpAny_assign_Name (wpAny_storeName_local (lookup_relabel_local hxl) (hoC.ns R₂.mem.1) (fun h₃ hn₃ hs₃ => ?_) (by simp [compEnvC, relabel, co.kind]))
      obtain ⟨oC', heC', hoC'⟩ := LCg.ns_obj hn₃
      have R₃ := R₂.chR (tk := s₁.toks + 1) hs₃.extBut heC'
      generalize hs₄ : ({ s₁ with heap := h₃, toks := s₁.toks + 1 } : Shared) = s₄ at R₃ ⊢
      generalize hm₂ : (fun z => if z = x then some v else m' z) = m₂ at hoC'
      have hmx : m₂ x = some v := by rw [← hm₂]; simp
      have okc : Ok K f d (addR (addR (addR c D (LCg.lst vs)) I o₁) C oC') := ok.addR.addR.addR
      have okin : Ok K g d (inner scope cl C (addR (addR (addR c D (LCg.lst vs)) I o₁) C oC') m m₂) := inner_ok okc co (List.mem_append_right _ (.head _)) hoC'
      have R₄ := inner_at (cl := cl) (C := C) (m₂ := m₂) R₃ co hcl hmx rv
      cases hT.2 with
      | keep y zs' τ₁ τ₂ h1 h2 T' hz =>
        subst hz
        refine inner_tests okin R₄ h1 fun bs₁ os₁ m₁ s₅ R₅ => ?_
        simp only [if_true]
        refine h2 _ okin _ os₁ m₁ s₅ _ _ R₅ fun bs₂ os₂ m₂' u s₆ ru R₆ => ?_
        rw [List.append_assoc (as ++ bs)] at R₆ ru
        have R₇ := (inner_back R₃ R₆).rot
        refine append_lst R₇.mem.1 (by lia) fun h₅ hs₅ hD₅ => ?_
        · have R₈ := (R₇.chR (tk := s₆.toks) hs₅.extBut hD₅).rot.rot.swap
          rw [List.append_assoc as] at R₈ ru
          refine ⟨items.length - (k + 1), by lia, .mk (k + 1) _ os₂ m τ₂.objs (xs ++ [y]) (vs ++ [u]) zs' o₁ oC' m₂ rfl hlt (by rw [List.length_append]; exact Nat.succ_le_succ hvl) R₈ hI₁ hoC' ?_ T' (by simp)⟩
          have := hvs.up (bs := bs₁ ++ bs₂)
          rw [List.append_assoc] at this
          exact this.app (.cons ru .nil)
      | skip _ h1 T' =>
        refine inner_tests okin R₄ h1 fun bs₁ os₁ m₁ s₅ R₅ => ?_
        simp only [Bool.false_eq_true, if_false]
        have R₈ := (inner_back R₃ R₅).swap
        rw [List.append_assoc as] at R₈
        refine ⟨items.length - (k + 1), by lia, .mk (k + 1) _ os₁ m _ xs vs zs o₁ oC' m₂ rfl hlt (Nat.le_succ_of_le hvl) R₈ hI₁ hoC' ?_ T' rfl⟩
        have := hvs.up (bs := bs₁)
        rw [List.append_assoc] at this
        exact this
    · obtain rfl : k = items.length := by lia
      rw [List.drop_length] at T
      obtain ⟨kp, e1, e2⟩ := T.end_
      subst e1 e2
      refine (W D _ C oC).done bs os m _ s o _ _ R kp hI fun s' R' => ?_
      dsimp only
      show ∃ m, s'.heap.Ns C m ∧ ∀ h', Heap.SameBut C s'.heap h' → Q (.ref D) { s' with heap := h' }
      refine ⟨m', hoC.ns R'.mem.1, fun h' hs' => ?_⟩
      have R'' := R'.dropR hs'.extBut
      rw [List.append_nil] at hao
      obtain ⟨R₉, r₉⟩ := R''.takeR (ao := ao) (hao _ _ _ ⟨vs.toArray, vs.length, rfl, by simpa using hvs.up⟩)
      rw [List.append_assoc] at R₉ r₉
      exact hq _ _ _ _ _ r₉ R₉
  exact codeAny_compStart_list (loop _ rfl) ((W D (LCg.lst []) D oC₀).self 0 _ _ _ _ R4.mem.1 hI (loop _ rfl))
theorem EvE.compL {g : Fx} {scope : Scope} {x : Str} {px pos : Pos} {iter elt : Expr} {ifs : List Expr} {cs : List (Str × Nat)} {items ys : List AV} {ob' : List AO} {ao : AO} {y : AV} (h : EvE prog K f d iter σ y σ₁) (hs : SrcL K σ₁ y items) (co : CompOk f g scope x cs σ₁.cells) (hc : σ₁.cells = σ.cells)
    (ht : CTurns prog K g d x cs ifs elt (fun ob => SrcL K ⟨ob, [], []⟩ y items) items σ₁.objs ys ob') (hz : items.length ≤ 60000) (hao : WkO (.list ys) ao) (hi : ∀ env x, foldedSetIterable iter env x = pure x) :
    EvE prog K f d (.ListComp elt [⟨.Name x px, iter, ifs, 0⟩] scope pos) σ (.obj ob'.length) { σ₁ with objs := ob' ++ [ao] } := by
  intro c ok as os m s Q E R hq
  rw [eval_ListComp]
  obtain ⟨cl, h1, h2⟩ := closureFor_of (scope := scope) (env := c.env) fun y hy => by
    obtain ⟨i, hi⟩ := co.free y hy
    rw [hc] at hi
    obtain ⟨a, ha, _⟩ := R.cells y i hi
    exact ⟨a, ha⟩
  refine wpAny_comprehension_free (use := none) rfl (hi _) h1 co.kind (fun y hy e => by rw [← look_lookup]; exact co.names y hy e) (h c ok as os m s _ E R fun bs os₁ m₁ v s₁ rv R₁ => ?_)
  obtain ⟨t, vs, rfl, hl, rs⟩ := hs.at ok R₁ rv
  refine wpAny_pyIter_list hl ?_
  have kp : ∀ τ : S, SrcL K τ y items = SrcL K ⟨τ.objs, [], []⟩ y items := fun τ => propext ⟨fun q => by
    cases q with
    | told q1 q2 => exact .told q1 q2
    | kept q1 => exact .kept q1, fun q => by
    cases q with
    | told q1 q2 => exact .told q1 q2
    | kept q1 => exact .kept q1⟩
  refine comp_run (It := isListIter t) (Kp := fun ob => SrcL K ⟨ob, [], []⟩ y items) ok co (fun D oD C oC => ?_) h2 ht (R₁.pushR (Heap.get?_push_size _ rfl)) ⟨rfl, rfl⟩ (Nat.le_trans hz (by decide +kernel)) hao fun bs₂ os₂ m₂ v s₂ rv R₂ => ?_
  · have := src_list (I := s₁.heap.objs.size) (prog := prog) (f := f) (target := .Name x px) (xs := items) (ok.addR (I := D) (o := oD)).addR (c := addR (addR c D oD) C oC) rfl rv
    simp only [kp] at this
    exact this
  · rw [List.append_assoc] at rv R₂
    exact hq _ _ _ _ _ rv R₂
theorem EvE.compR {g : Fx} {scope : Scope} {x : Str} {px pos : Pos} {iter elt : Expr} {ifs : List Expr} {cs : List (Str × Nat)} {ys : List AV} {ob' : List AO} {ao : AO} {i n : Nat} {a b k : Int} (h : EvE prog K f d iter σ (.obj i) σ₁) (ho : σ₁.objs[i]? = some (.rng a b k)) (hsm : Builtin.Range.small a b k = true) (hn : Builtin.Range.rangeSize a b k = (n : Int)) (co : CompOk f g scope x cs σ₁.cells) (hc : σ₁.cells = σ.cells)
    (ht : CTurns prog K g d x cs ifs elt (fun _ => True) (rangeAV a k 0 n) σ₁.objs ys ob') (hz : n ≤ 60000) (hao : WkO (.list ys) ao) (hi : ∀ env x, foldedSetIterable iter env x = pure x) :
    EvE prog K f d (.ListComp elt [⟨.Name x px, iter, ifs, 0⟩] scope pos) σ (.obj ob'.length) { σ₁ with objs := ob' ++ [ao] } := by
  intro c ok as os m s Q E R hq
  rw [eval_ListComp]
  obtain ⟨cl, h1, h2⟩ := closureFor_of (scope := scope) (env := c.env) fun y hy => by
    obtain ⟨i, hi⟩ := co.free y hy
    rw [hc] at hi
    obtain ⟨a, ha, _⟩ := R.cells y i hi
    exact ⟨a, ha⟩
  refine wpAny_comprehension_free (use := none) rfl (hi _) h1 co.kind (fun y hy e => by rw [← look_lookup]; exact co.names y hy e) (h c ok as os m s _ E R fun bs os₁ m₁ v s₁ rv R₁ => ?_)
  obtain ⟨q, o, g1, _, _, g2, t, u, v', rfl⟩ := R₁.obj ho
  obtain ⟨q', e, rfl⟩ := rv
  rw [g1] at e; cases e
  refine wpAny_pyIter_range g2 hsm ?_
  refine comp_run (It := isRangeIter a k n) (Kp := fun _ => True) ok co (fun D oD C oC => src_range (ok.addR (I := D) (o := oD)).addR) h2 ht (R₁.pushR (Heap.get?_push_size _ rfl)) (by unfold isRangeIter; rw [hn]; simp) (by rw [rangeAV_len]; exact Nat.le_trans hz (by decide +kernel)) hao fun bs₂ os₂ m₂ v s₂ rv R₂ => ?_
  rw [List.append_assoc] at rv R₂
  exact hq _ _ _ _ _ rv R₂
end
noncomputable def idx (i : Nat) : List Nat → Option Nat
  | [] => none
  | j :: r => match Nat.beq j i with
    | true => some 0
    | false => match idx i r with
      | some k => some (Nat.succ k)
      | none => none
theorem idx_of {i : Nat} : ∀ {l : List Nat} {k : Nat}, idx i l = some k → l[k]? = some i
  | [], _, h => nomatch h
  | j :: r, k, h => by
    unfold idx at h
    cases e : Nat.beq j i with
    | true => rw [e] at h; cases h; simp [Nat.eq_of_beq_eq_true e]
    | false =>
      rw [e] at h
      cases q : idx i r with
      | none => rw [q] at h; first | exact no_ h | cases h
      | some k' => rw [q] at h; cases h; simpa using idx_of q
theorem idx_none {i : Nat} : ∀ {l : List Nat}, idx i l = none → i ∉ l
  | [], _ => fun h => nomatch h
  | j :: r, h => by
    unfold idx at h
    cases e : Nat.beq j i with
    | true => rw [e] at h; first | exact no_ h | cases h
    | false =>
      rw [e] at h
      cases q : idx i r with
      | none =>
        intro hm
        rcases List.mem_cons.mp hm with e' | hm
        · subst e'; rw [Nat.beq_refl] at e; cases e
        · exact idx_none q hm
      | some k' => rw [q] at h; first | exact no_ h | cases h
noncomputable def renV (sel : List Nat) : AV → Option AV
  | .obj i => match idx i sel with
    | some k => some (.obj k)
    | none => none
  | x => some x
noncomputable def renVs (sel : List Nat) : List AV → Option (List AV)
  | [] => some []
  | x :: xs => match renV sel x with
    | some y => match renVs sel xs with
      | some ys => some (y :: ys)
      | none => none
    | none => none
noncomputable def renEs (sel : List Nat) : List (Str × AV) → Option (List (Str × AV))
  | [] => some []
  | (k, x) :: xs => match renV sel x with
    | some y => match renEs sel xs with
      | some ys => some ((k, y) :: ys)
      | none => none
    | none => none
noncomputable def renNs (sel : List Nat) : List (Str × Nat) → Option (List (Str × Nat))
  | [] => some []
  | (k, x) :: xs => match idx x sel with
    | some y => match renNs sel xs with
      | some ys => some ((k, y) :: ys)
      | none => none
    | none => none
noncomputable def renO (sel : List Nat) : AO → Option AO
  | .list xs => match renVs sel xs with
    | some ys => some (.list ys)
    | none => none
  | .il xs => some (.il xs)
  | .tup xs => match renVs sel xs with
    | some ys => some (.tup ys)
    | none => none
  | .dict es => match renEs sel es with
    | some ys => some (.dict ys)
    | none => none
  | .inst C d => match idx d sel with
    | some k => some (.inst C k)
    | none => none
  | .attrs es => match renEs sel es with
    | some ys => some (.attrs ys)
    | none => none
  | .meth f x => match renV sel x with
    | some y => some (.meth f y)
    | none => none
  | .cell none => some (.cell none)
  | .cell (some x) => match renV sel x with
    | some y => some (.cell (some y))
    | none => none
  | .rng a b c => some (.rng a b c)
  | .fn F cl cd => match renNs sel cl with
    | some ys => match idx cd sel with
      | some k => some (.fn F ys k)
      | none => none
    | none => none
  | .code q => some (.code q)
  | .tab ps => some (.tab ps)
  | .junk => some .junk
noncomputable def RelA (sel : List Nat) (as as' : List Addr) : Prop := ∀ (k i : Nat), sel[k]? = some i → ∀ a, as[i]? = some a → as'[k]? = some a
section
variable {sel : List Nat} {as as' : List Addr}
theorem RV.ren (h : RelA sel as as') {x y : AV} {v : Value} (e : renV sel x = some y) (r : RV as x v) : RV as' y v := by
  cases x with
  | obj i =>
    unfold renV at e
    dsimp only at e
    cases q : idx i sel with
    | none => rw [q] at e; cases e
    | some k =>
      rw [q] at e; cases e
      obtain ⟨a, h1, h2⟩ := r
      exact ⟨a, h k i (idx_of q) a h1, h2⟩
  | _ => cases e; exact r
theorem RVs.ren (h : RelA sel as as') {xs : List AV} {vs : List Value} (r : RVs as xs vs) : ∀ {ys : List AV}, renVs sel xs = some ys → RVs as' ys vs := by
  induction r with
  | nil => intro ys e; cases e; exact .nil
  | @cons x xs v vs r _ ih =>
    intro ys e
    unfold renVs at e
    cases q : renV sel x with
    | none => rw [q] at e; cases e
    | some y =>
      rw [q] at e
      cases q2 : renVs sel xs with
      | none => rw [q2] at e; cases e
      | some zs => rw [q2] at e; cases e; exact .cons (r.ren h q) (ih q2)
theorem renEs_keys : ∀ {xs ys : List (Str × AV)}, renEs sel xs = some ys → ys.map (·.1) = xs.map (·.1)
  | [], ys, e => by cases e; rfl
  | (k, x) :: xs, ys, e => by
    unfold renEs at e
    cases q : renV sel x with
    | none => rw [q] at e; cases e
    | some y =>
      rw [q] at e
      cases q2 : renEs sel xs with
      | none => rw [q2] at e; cases e
      | some zs => rw [q2] at e; cases e; simp [renEs_keys q2]
theorem REs.ren {P : Params} (h : RelA sel as as') {xs : List (Str × AV)} {vs : List DictEntry} (r : REs P as xs vs) : ∀ {ys : List (Str × AV)}, renEs sel xs = some ys → REs P as' ys vs := by
  induction r with
  | nil => intro ys e; cases e; exact .nil
  | @cons p xs v vs r _ ih =>
    obtain ⟨k, x⟩ := p
    intro ys e
    unfold renEs at e
    cases q : renV sel x with
    | none => rw [q] at e; cases e
    | some y =>
      rw [q] at e
      cases q2 : renEs sel xs with
      | none => rw [q2] at e; cases e
      | some zs =>
        rw [q2] at e; cases e
        obtain ⟨t, u, e1, e2⟩ := r
        exact .cons ⟨t, u, e1, e2.ren h q⟩ (ih q2)
theorem RCs.ren (h : RelA sel as as') {xs : List (Str × Nat)} {vs : List (Str × Addr)} (r : RCs as xs vs) : ∀ {ys : List (Str × Nat)}, renNs sel xs = some ys → RCs as' ys vs := by
  induction r with
  | nil => intro ys e; cases e; exact .nil
  | @cons k x a xs vs r _ ih =>
    intro ys e
    unfold renNs at e
    cases q : idx x sel with
    | none => rw [q] at e; cases e
    | some y =>
      rw [q] at e
      cases q2 : renNs sel xs with
      | none => rw [q2] at e; cases e
      | some zs => rw [q2] at e; cases e; exact .cons (h _ _ (idx_of q) _ r) (ih q2)
theorem RO.ren {P : Params} (h : RelA sel as as') {x y : AO} {o : Obj} (r : RO P as x o) (e : renO sel x = some y) : RO P as' y o := by
  unfold renO at e
  cases x with
  | list xs =>
    dsimp only at e
    cases q : renVs sel xs with
    | none => rw [q] at e; cases e
    | some ys => rw [q] at e; cases e; obtain ⟨vs, n, e1, e2⟩ := r; exact ⟨vs, n, e1, e2.ren h q⟩
  | il xs => cases e; exact r
  | tup xs =>
    dsimp only at e
    cases q : renVs sel xs with
    | none => rw [q] at e; cases e
    | some ys => rw [q] at e; cases e; obtain ⟨vs, n, e1, e2⟩ := r; exact ⟨vs, n, e1, e2.ren h q⟩
  | dict xs =>
    dsimp only at e
    cases q : renEs sel xs with
    | none => rw [q] at e; cases e
    | some ys => rw [q] at e; cases e; obtain ⟨vs, n, e1, e2, e3⟩ := r; exact ⟨vs, n, e1, e2.ren h q, by rw [renEs_keys q]; exact e3⟩
  | inst C d =>
    dsimp only at e
    cases q : idx d sel with
    | none => rw [q] at e; cases e
    | some k => rw [q] at e; cases e; obtain ⟨a, e1, e2⟩ := r; exact ⟨a, h _ _ (idx_of q) _ e1, e2⟩
  | attrs xs =>
    dsimp only at e
    cases q : renEs sel xs with
    | none => rw [q] at e; cases e
    | some ys => rw [q] at e; cases e; obtain ⟨vs, n, e1, e2, e3⟩ := r; exact ⟨vs, n, e1, e2.ren h q, by rw [renEs_keys q]; exact e3⟩
  | meth f x =>
    dsimp only at e
    cases q : renV sel x with
    | none => rw [q] at e; cases e
    | some y => rw [q] at e; cases e; obtain ⟨v, e1, e2⟩ := r; exact ⟨v, e1.ren h q, e2⟩
  | cell v =>
    cases v with
    | none => cases e; obtain ⟨u, e1, e2⟩ := r; exact ⟨u, e1, by cases u <;> exact e2⟩
    | some x =>
      dsimp only at e
      cases q : renV sel x with
      | none => rw [q] at e; cases e
      | some y =>
        rw [q] at e; cases e
        obtain ⟨u, e1, e2⟩ := r
        refine ⟨u, e1, ?_⟩
        cases u with
        | none => exact e2
        | some u => exact RV.ren h q e2
  | rng a b c => cases e; exact r
  | fn F cl cd =>
    dsimp only at e
    cases q : renNs sel cl with
    | none => rw [q] at e; cases e
    | some ys =>
      rw [q] at e
      dsimp only at e
      cases q2 : idx cd sel with
      | none => rw [q2] at e; cases e
      | some k =>
        rw [q2] at e; cases e
        obtain ⟨bs, ce, doc, pm, ctv, r, e, z⟩ := r
        exact ⟨bs, ce, doc, pm, ctv, r.ren h q, h _ _ (idx_of q2) _ e, z⟩
  | code n => cases e; exact r
  | tab ps => cases e; exact r
  | junk => cases e; trivial
end
noncomputable def embV (e : Nat → Nat) : AV → AV
  | .obj i => .obj (e i)
  | x => x
noncomputable def embO (e : Nat → Nat) : AO → AO
  | .list xs => .list (xs.map (embV e))
  | .il xs => .il xs
  | .tup xs => .tup (xs.map (embV e))
  | .dict es => .dict (es.map fun p => (p.1, embV e p.2))
  | .inst C d => .inst C (e d)
  | .attrs es => .attrs (es.map fun p => (p.1, embV e p.2))
  | .meth f x => .meth f (embV e x)
  | .cell none => .cell none
  | .cell (some x) => .cell (some (embV e x))
  | .rng a b c => .rng a b c
  | .fn F cl cd => .fn F (cl.map fun p => (p.1, e p.2)) (e cd)
  | .code q => .code q
  | .tab ps => .tab ps
  | .junk => .junk
noncomputable def RelE (e : Nat → Nat) (as' as : List Addr) : Prop := ∀ (k : Nat) a, as'[k]? = some a → as[e k]? = some a
section
variable {e : Nat → Nat} {as as' : List Addr}
theorem RV.emb (h : RelE e as' as) {x : AV} {v : Value} (r : RV as' x v) : RV as (embV e x) v := by
  cases x with
  | obj i => obtain ⟨a, h1, h2⟩ := r; exact ⟨a, h _ _ h1, h2⟩
  | _ => exact r
theorem RVs.emb (h : RelE e as' as) {xs : List AV} {vs : List Value} (r : RVs as' xs vs) : RVs as (xs.map (embV e)) vs := by
  induction r with
  | nil => exact .nil
  | cons r _ ih => exact .cons (r.emb h) ih
theorem REs.emb {P : Params} (h : RelE e as' as) {xs : List (Str × AV)} {vs : List DictEntry} (r : REs P as' xs vs) : REs P as (xs.map fun p => (p.1, embV e p.2)) vs := by
  induction r with
  | nil => exact .nil
  | cons r _ ih => obtain ⟨t, u, e1, e2⟩ := r; exact .cons ⟨t, u, e1, e2.emb h⟩ ih
theorem emb_keys {xs : List (Str × AV)} : (xs.map fun p => (p.1, embV e p.2)).map (·.1) = xs.map (·.1) := by simp
theorem RCs.emb (h : RelE e as' as) {xs : List (Str × Nat)} {vs : List (Str × Addr)} (r : RCs as' xs vs) : RCs as (xs.map fun p => (p.1, e p.2)) vs := by
  induction r with
  | nil => exact .nil
  | cons r _ ih => exact .cons (h _ _ r) ih
theorem RO.emb {P : Params} (h : RelE e as' as) {x : AO} {o : Obj} (r : RO P as' x o) : RO P as (embO e x) o := by
  cases x with
  | list xs => obtain ⟨vs, n, e1, e2⟩ := r; exact ⟨vs, n, e1, e2.emb h⟩
  | il xs => exact r
  | tup xs => obtain ⟨vs, n, e1, e2⟩ := r; exact ⟨vs, n, e1, e2.emb h⟩
  | dict xs => obtain ⟨vs, n, e1, e2, e3⟩ := r; exact ⟨vs, n, e1, e2.emb h, by rw [emb_keys]; exact e3⟩
  | inst C d => obtain ⟨a, e1, e2⟩ := r; exact ⟨a, h _ _ e1, e2⟩
  | attrs xs => obtain ⟨vs, n, e1, e2, e3⟩ := r; exact ⟨vs, n, e1, e2.emb h, by rw [emb_keys]; exact e3⟩
  | meth f x => obtain ⟨v, e1, e2⟩ := r; exact ⟨v, e1.emb h, e2⟩
  | cell v =>
    cases v with
    | none => obtain ⟨u, e1, e2⟩ := r; exact ⟨u, e1, by cases u <;> exact e2⟩
    | some x =>
      obtain ⟨u, e1, e2⟩ := r
      refine ⟨u, e1, ?_⟩
      cases u with
      | none => exact e2
      | some u => exact RV.emb h e2
  | rng a b c => exact r
  | fn F cl cd => obtain ⟨bs, ce, doc, pm, ctv, r, e, z⟩ := r; exact ⟨bs, ce, doc, pm, ctv, r.emb h, h _ _ e, z⟩
  | code n => exact r
  | tab ps => exact r
  | junk => trivial
end
noncomputable def pickA {α : Type} (d : α) (sel : List Nat) (l : List α) : List α := sel.map fun i => l.getD i d
theorem pickA_get {α : Type} {d : α} {sel : List Nat} {l : List α} (h : ∀ i ∈ sel, i < l.length) {k i : Nat} (hk : sel[k]? = some i) : (pickA d sel l)[k]? = l[i]? := by
  unfold pickA
  rw [List.getElem?_map, hk]
  have := h i (List.mem_of_getElem? hk)
  simp [List.getD_eq_getElem?_getD, List.getElem?_eq_getElem this]
theorem pickA_mem {α : Type} {d : α} {sel : List Nat} {l : List α} (h : ∀ i ∈ sel, i < l.length) {a : α} (ha : a ∈ pickA d sel l) : ∃ i ∈ sel, l[i]? = some a := by
  obtain ⟨i, hi, rfl⟩ := List.mem_map.mp ha
  exact ⟨i, hi, by simp [List.getD_eq_getElem?_getD, List.getElem?_eq_getElem (h i hi)]⟩
theorem nodup_inj {l : List Addr} (nd : l.Nodup) {i j : Nat} {a : Addr} (h1 : l[i]? = some a) (h2 : l[j]? = some a) : i = j := by
  obtain ⟨hi, e1⟩ := List.getElem?_eq_some_iff.mp h1
  obtain ⟨hj, e2⟩ := List.getElem?_eq_some_iff.mp h2
  have P := List.pairwise_iff_getElem.mp nd
  rcases Nat.lt_trichotomy i j with h | h | h
  · exact absurd (e1.trans e2.symm) (P i j hi hj h)
  · exact h
  · exact absurd (e2.trans e1.symm) (P j i hj hi h)
theorem pickA_nodup {d : Addr} {l : List Addr} (nd : l.Nodup) : ∀ {sel : List Nat}, sel.Nodup → (∀ i ∈ sel, i < l.length) → (pickA d sel l).Nodup
  | [], _, _ => .nil
  | i :: r, hs, h => by
    refine List.nodup_cons.mpr ⟨fun hm => ?_, pickA_nodup nd (List.nodup_cons.mp hs).2 fun j hj => h j (.tail _ hj)⟩
    obtain ⟨j, hj, e⟩ := pickA_mem (sel := r) (fun j hj => h j (.tail _ hj)) hm
    have hi := h i (.head _)
    have e' : l[i]? = some (l.getD i d) := by simp [List.getD_eq_getElem?_getD, List.getElem?_eq_getElem hi]
    have := nodup_inj nd e e'
    subst this
    exact (List.nodup_cons.mp hs).1 hj
theorem pickA_zip {d : Addr} {d' : Obj} {sel : List Nat} {as : List Addr} {os : List Obj} (h : ∀ i ∈ sel, i < as.length) (hl : os.length = as.length) : ∀ p ∈ (pickA d sel as).zip (pickA d' sel os), p ∈ as.zip os := by
  intro p hp
  unfold pickA at hp
  rw [List.zip_map'] at hp
  obtain ⟨i, hi, rfl⟩ := List.mem_map.mp hp
  have h1 := h i hi
  have h2 : i < os.length := by rw [hl]; exact h1
  exact zip_mem (i := i) (by simp [List.getD_eq_getElem?_getD, List.getElem?_eq_getElem h1]) (by simp [List.getD_eq_getElem?_getD, List.getElem?_eq_getElem h2])
noncomputable def over {α : Type} (sel : List Nat) (xs : List α) : Nat → List α → List α
  | _, [] => []
  | i, a :: r => (match idx i sel with
    | some k => match xs[k]? with
      | some x => x
      | none => a
    | none => a) :: over sel xs (Nat.succ i) r
theorem over_len {α : Type} {sel : List Nat} {xs : List α} : ∀ {l : List α} {i : Nat}, (over sel xs i l).length = l.length
  | [], _ => rfl
  | a :: r, i => by simp [over, over_len]
theorem over_get {α : Type} {sel : List Nat} {xs : List α} : ∀ {l : List α} {i j : Nat} {x : α}, (over sel xs i l)[j]? = some x → ∃ a, l[j]? = some a ∧ ((idx (i + j) sel = none ∧ x = a) ∨ ∃ k, idx (i + j) sel = some k ∧ ((xs[k]? = none ∧ x = a) ∨ xs[k]? = some x))
  | [], _, _, _, h => by simp [over] at h
  | a :: r, i, 0, x, h => by
    simp only [over, List.getElem?_cons_zero, Option.some.injEq] at h
    refine ⟨a, rfl, ?_⟩
    rw [Nat.add_zero]
    cases e : idx i sel with
    | none => rw [e] at h; exact .inl ⟨rfl, h.symm⟩
    | some k =>
      rw [e] at h
      dsimp only at h
      cases q : xs[k]? with
      | none => rw [q] at h; exact .inr ⟨k, rfl, .inl ⟨q, h.symm⟩⟩
      | some y => rw [q] at h; exact .inr ⟨k, rfl, .inr (q.trans (congrArg some h))⟩
  | a :: r, i, j + 1, x, h => by
    simp only [over, List.getElem?_cons_succ] at h
    obtain ⟨b, h1, h2⟩ := over_get h
    refine ⟨b, by simpa using h1, ?_⟩
    rw [show i + (j + 1) = Nat.succ i + j by lia]
    exact h2
noncomputable def renOs (sel : List Nat) (objs : List AO) : List Nat → Option (List AO)
  | [] => some []
  | i :: r => match nth objs i with
    | some ao => match renO sel ao with
      | some bo => match renOs sel objs r with
        | some l => some (bo :: l)
        | none => none
      | none => none
    | none => none
theorem renOs_get {sel : List Nat} {objs : List AO} : ∀ {r : List Nat} {l : List AO}, renOs sel objs r = some l → l.length = r.length ∧ ∀ (k : Nat) (bo : AO), l[k]? = some bo → ∃ i ao, r[k]? = some i ∧ objs[i]? = some ao ∧ renO sel ao = some bo
  | [], l, h => by cases h; exact ⟨rfl, fun k bo h => by simp at h⟩
  | i :: r, l, h => by
    unfold renOs at h
    cases q1 : nth objs i with
    | none => rw [q1] at h; first | exact no_ h | cases h
    | some ao =>
      rw [q1] at h
      dsimp only at h
      cases q2 : renO sel ao with
      | none => rw [q2] at h; first | exact no_ h | cases h
      | some bo =>
        rw [q2] at h
        dsimp only at h
        cases q3 : renOs sel objs r with
        | none => rw [q3] at h; first | exact no_ h | cases h
        | some l' =>
          rw [q3] at h
          cases h
          obtain ⟨h1, h2⟩ := renOs_get q3
          refine ⟨by simp [h1], fun k bo' hk => ?_⟩
          cases k with
          | zero => simp at hk; subst hk; rw [nth_eq] at q1; exact ⟨i, ao, rfl, q1, q2⟩
          | succ k => obtain ⟨j, a, e1, e2, e3⟩ := h2 k bo' (by simpa using hk); exact ⟨j, a, by simpa using e1, e2, e3⟩
noncomputable def back (sel : List Nat) (n k : Nat) : Nat := match sel[k]? with
  | some i => i
  | none => n + (k - sel.length)
section
variable {prog : Program} {K : Params → Frag} {d : Nat}
theorem frame_nodup {as : List Addr} {os : List Obj} {sel : List Nat} {rest others : List (Addr × Obj)} (nd : (as ++ rest.map (·.1)).Nodup) (hnd : sel.Nodup) (lim : ∀ i ∈ sel, i < as.length) (hoth : ∀ p, p ∈ others ↔ p ∈ as.zip os ∧ p.1 ∉ pickA 0 sel as) (hs : others.Sublist (as.zip os)) (hl : os.length = as.length) :
    (pickA 0 sel as ++ (rest ++ others).map (·.1)).Nodup := by
  rw [List.map_append, List.nodup_append, List.nodup_append]
  have nd := List.nodup_append.mp nd
  refine ⟨pickA_nodup nd.1 hnd lim, ⟨nd.2.1, ?_, ?_⟩, ?_⟩
  · refine List.Nodup.sublist (hs.map (·.1)) ?_
    rw [List.map_fst_zip (by rw [hl]; exact Nat.le_refl _)]
    exact nd.1
  · intro a ha b hb e
    subst e
    obtain ⟨p, hp, rfl⟩ := List.mem_map.mp hb
    exact nd.2.2 _ (List.of_mem_zip (show (p.1, p.2) ∈ _ from ((hoth p).mp hp).1)).1 _ ha rfl
  · intro a ha b hb e
    subst e
    rcases List.mem_append.mp hb with hb | hb
    · obtain ⟨i, _, e⟩ := pickA_mem lim ha
      exact nd.2.2 _ (List.mem_of_getElem? e) _ hb rfl
    · obtain ⟨p, hp, rfl⟩ := List.mem_map.mp hb
      exact ((hoth p).mp hp).2 ha
theorem frame_locs {as bs : List Addr} {locs : List (Str × Option AV)} {lm : Str → Option Value} (R : ∀ (x : Str) av, (x, some av) ∈ locs → ∃ v, lm x = some v ∧ RV as av v) : ∀ (z : Str) av, (z, some av) ∈ locs.map (fun p => (p.1, match p.2 with | some _ => (lm p.1).map AV.val | none => none)) → ∃ v, lm z = some v ∧ RV bs av v := by
  intro z av hz
  obtain ⟨p, hp, e⟩ := List.mem_map.mp hz
  obtain ⟨y, q⟩ := p
  cases q with
  | none => simp at e
  | some av' =>
    obtain ⟨v, h1, h2⟩ := R y av' hp
    simp only [h1, Option.map_some, Prod.mk.injEq, Option.some.injEq] at e
    obtain ⟨rfl, rfl⟩ := e
    exact ⟨v, h1, rfl⟩
theorem frame_rel {as bs : List Addr} {sel : List Nat} (lim : ∀ i ∈ sel, i < as.length) : RelE (back sel as.length) (pickA 0 sel as ++ bs) (as ++ bs) := fun k a hk => by
  have lpk : (pickA 0 sel as).length = sel.length := by simp [pickA]
  unfold back
  cases e : sel[k]? with
  | some i =>
    have hlt : k < (pickA 0 sel as).length := by rw [lpk]; exact (List.getElem?_eq_some_iff.mp e).1
    rw [List.getElem?_append_left hlt, pickA_get lim e] at hk
    exact getElem?_app hk
  | none =>
    have hge := List.getElem?_eq_none_iff.mp e
    rw [List.getElem?_append_right (by rw [lpk]; exact hge), lpk] at hk
    dsimp only
    rw [List.getElem?_append_right (Nat.le_add_right _ _), Nat.add_sub_cancel_left]
    exact hk
theorem CallG.frame {cd : List Value → Code} {args argsB : List AV} {objs objsS objsS' : List AO} {x : AV} {sel : List Nat} (h : CallG prog K cd d args objsS x objsS') (hnd : sel.Nodup) (hlim : ∀ i ∈ sel, i < objs.length) (hren : renOs sel objs sel = some objsS) (hargs : renVs sel argsB = some args) (hlen : sel.length ≤ objsS'.length) :
    CallG prog K cd d argsB objs (embV (back sel objs.length) x) (over sel (objsS'.map (embO (back sel objs.length))) 0 objs ++ (objsS'.drop sel.length).map (embO (back sel objs.length))) := by
  intro f c σ hf ok hσ as os m s vs Q E R rvs hq
  subst hσ
  have la : σ.objs.length = as.length := R.len'
  have lim : ∀ i ∈ sel, i < as.length := fun i hi => by rw [← la]; exact hlim i hi
  have limo : ∀ i ∈ sel, i < os.length := fun i hi => by rw [R.len]; exact lim i hi
  have ndas : as.Nodup := (List.nodup_append.mp R.nodup).1
  have relA : RelA sel as (pickA 0 sel as) := fun k i hk a ha => by rw [pickA_get lim hk]; exact ha
  obtain ⟨rl, rg⟩ := renOs_get hren
  let others := (as.zip os).filter fun p => !((pickA 0 sel as).contains p.1)
  have hoth : ∀ p, p ∈ others ↔ p ∈ as.zip os ∧ p.1 ∉ pickA 0 sel as := fun p => by
    rw [List.mem_filter]
    simp
  let c' : Cx := { c with rest := c.rest ++ others }
  have ok' : Ok K f (d + 1) c' := { ok with cmp := fun e => by rw [hf] at e; cases e }
  let locs' := σ.locs.map fun p => (p.1, match p.2 with | some _ => (c.lm m p.1).map AV.val | none => none)
  have R' : At c' (pickA 0 sel as) (pickA default sel os) m ⟨objsS, locs', []⟩ s :=
    { gens := R.gens, os_ := R.os_, fr := R.fr
      news := fun p hp => by
        rcases List.mem_append.mp hp with hp | hp
        · exact R.news p (List.mem_append_left _ (pickA_zip lim R.len p hp))
        · rcases List.mem_append.mp hp with hp | hp
          · exact R.news p (List.mem_append_right _ hp)
          · exact R.news p (List.mem_append_left _ ((hoth p).mp hp).1)
      len := by simp [pickA]
      len' := by simp [pickA, rl]
      nodup := frame_nodup R.nodup hnd lim hoth List.filter_sublist R.len
      objs := fun k bo o h1 h2 => by
        obtain ⟨i, ao, e1, e2, e3⟩ := rg k bo h1
        rw [pickA_get limo e1] at h2
        exact (R.objs i ao o e2 h2).ren relA e3
      locs := frame_locs R.locs
      keys := by
        show (locs'.map (·.1)).Nodup
        rw [List.map_map]
        exact R.keys
      cells := fun _ _ hz => nomatch hz
      comp := R.comp }
  refine h f c' ⟨objsS, locs', []⟩ hf ok' rfl _ _ m s vs Q E R' (rvs.ren relA hargs) fun bs os' m' v s' rv R'' => ?_
  have lpk : (pickA 0 sel as).length = sel.length := by simp [pickA]
  have los' : os'.length = sel.length + bs.length := by rw [R''.len, List.length_append, lpk]
  have relE : RelE (back sel σ.objs.length) (pickA 0 sel as ++ bs) (as ++ bs) := by rw [la]; exact frame_rel lim
  refine hq bs (over sel os' 0 os ++ os'.drop sel.length) m' v s' (rv.emb relE) ?_
  have cov : ∀ a ∈ as, a ∈ pickA 0 sel as ∨ a ∈ others.map (·.1) := fun a ha => by
    by_cases hp : a ∈ pickA 0 sel as
    · exact .inl hp
    · obtain ⟨i, hi, rfl⟩ := List.getElem_of_mem ha
      have h2 : i < os.length := by rw [R.len]; exact hi
      exact .inr (List.mem_map.mpr ⟨(as[i], os[i]), (hoth _).mpr ⟨zip_mem (List.getElem?_eq_getElem hi) (List.getElem?_eq_getElem h2), hp⟩, rfl⟩)
  have nd2 := R''.nodup
  rw [show c'.rest.map (·.1) = c.rest.map (·.1) ++ others.map (·.1) from by show (c.rest ++ others).map (·.1) = _; rw [List.map_append], List.nodup_append] at nd2
  obtain ⟨n1, n2, n3⟩ := nd2
  have n4 := List.nodup_append.mp n1
  have n5 := List.nodup_append.mp R.nodup
  exact
    { gens := R''.gens, os_ := R''.os_, fr := R''.fr
      news := fun p hp => by
        rcases List.mem_append.mp hp with hp | hp
        · obtain ⟨a, o⟩ := p
          obtain ⟨i, hi⟩ := List.getElem?_of_mem hp
          rw [List.getElem?_zip_eq_some] at hi
          obtain ⟨h1, h2⟩ := hi
          by_cases hlt : i < as.length
          · rw [List.getElem?_append_left hlt] at h1
            rw [List.getElem?_append_left (by rw [over_len, R.len]; exact hlt)] at h2
            obtain ⟨o₀, e1, e2⟩ := over_get h2
            rw [Nat.zero_add] at e2
            rcases e2 with ⟨e2, rfl⟩ | ⟨k, e2, e3⟩
            · refine R''.news _ (List.mem_append_right _ (List.mem_append_right _ ((hoth _).mpr ⟨zip_mem h1 e1, fun hm => ?_⟩)))
              obtain ⟨j, hj, e⟩ := pickA_mem lim hm
              have := nodup_inj ndas h1 e
              subst this
              exact idx_none e2 hj
            · have hk := idx_of e2
              have hkl := (List.getElem?_eq_some_iff.mp hk).1
              rcases e3 with ⟨e3, _⟩ | e3
              · have := List.getElem?_eq_none_iff.mp e3
                lia
              · refine R''.news _ (List.mem_append_left _ (zip_mem (i := k) ?_ e3))
                rw [List.getElem?_append_left (by rw [lpk]; exact hkl), pickA_get lim hk]
                exact h1
          · have hge : as.length ≤ i := Nat.le_of_not_lt hlt
            rw [List.getElem?_append_right hge] at h1
            rw [List.getElem?_append_right (by rw [over_len, R.len]; exact hge), over_len, R.len, List.getElem?_drop] at h2
            refine R''.news _ (List.mem_append_left _ (zip_mem (i := sel.length + (i - as.length)) ?_ h2))
            rw [List.getElem?_append_right (by rw [lpk]; lia), lpk, Nat.add_sub_cancel_left]
            exact h1
        · exact R''.news p (List.mem_append_right _ (List.mem_append_left _ hp))
      len := by
        rw [List.length_append, List.length_append, over_len, List.length_drop, R.len, los', Nat.add_sub_cancel_left]
      len' := by
        have l3 := R''.len'
        rw [List.length_append, lpk] at l3
        show (over sel _ 0 σ.objs ++ _).length = _
        rw [List.length_append, List.length_append, over_len, List.length_map, List.length_drop, l3, la, Nat.add_sub_cancel_left]
      nodup := by
        rw [List.nodup_append]
        refine ⟨?_, n5.2.1, ?_⟩
        · rw [List.nodup_append]
          refine ⟨ndas, n4.2.1, fun a ha b hb e => ?_⟩
          subst e
          rcases cov a ha with h | h
          · exact n4.2.2 _ h _ hb rfl
          · exact n3 _ (List.mem_append_right _ hb) _ (List.mem_append_right _ h) rfl
        · intro a ha b hb
          rcases List.mem_append.mp ha with h | h
          · exact n5.2.2 _ h _ hb
          · exact n3 _ (List.mem_append_right _ h) _ (List.mem_append_left _ hb)
      objs := fun i ao o h1 h2 => by
        by_cases hlt : i < as.length
        · rw [List.getElem?_append_left (by rw [over_len, la]; exact hlt)] at h1
          rw [List.getElem?_append_left (by rw [over_len, R.len]; exact hlt)] at h2
          obtain ⟨a₀, e1, e2⟩ := over_get h1
          obtain ⟨o₀, e3, e4⟩ := over_get h2
          rw [Nat.zero_add] at e2 e4
          rcases e2 with ⟨e2, rfl⟩ | ⟨k, e2, e5⟩
          · rcases e4 with ⟨_, rfl⟩ | ⟨k', e4, _⟩
            · exact (R.objs i _ _ e1 e3).up
            · rw [e2] at e4; cases e4
          · have hk := idx_of e2
            have hkl := (List.getElem?_eq_some_iff.mp hk).1
            rcases e4 with ⟨e4, _⟩ | ⟨k', e4, e6⟩
            · rw [e2] at e4; cases e4
            · rw [e2] at e4; cases e4
              rcases e5 with ⟨e5, _⟩ | e5
              · have := List.getElem?_eq_none_iff.mp e5
                rw [List.length_map] at this
                lia
              · rcases e6 with ⟨e6, _⟩ | e6
                · have := List.getElem?_eq_none_iff.mp e6
                  lia
                · rw [List.getElem?_map] at e5
                  cases q : objsS'[k]? with
                  | none => rw [q] at e5; cases e5
                  | some b => rw [q] at e5; cases e5; exact (R''.objs k b o q e6).emb relE
        · have hge : as.length ≤ i := Nat.le_of_not_lt hlt
          rw [List.getElem?_append_right (by rw [over_len, la]; exact hge), over_len, la, List.getElem?_map, List.getElem?_drop] at h1
          rw [List.getElem?_append_right (by rw [over_len, R.len]; exact hge), over_len, R.len, List.getElem?_drop] at h2
          cases q : objsS'[sel.length + (i - as.length)]? with
          | none => rw [q] at h1; cases h1
          | some b =>
            rw [q] at h1
            cases h1
            have := (R''.objs _ b o q h2).emb relE
            rw [la] at this
            exact this
      locs := fun z av hz => by
        obtain ⟨v, h1, h2⟩ := R.locs z av hz
        obtain ⟨v', h3, h4⟩ := R''.locs z (.val v) (List.mem_map.mpr ⟨(z, some av), hz, by simp [h1]⟩)
        obtain rfl : v' = v := h4
        exact ⟨v', h3, h2.up⟩
      keys := R.keys
      cells := fun z i hz => let ⟨a, h1, h2⟩ := R.cells z i hz; ⟨a, h1, getElem?_app h2⟩
      comp := R''.comp }
theorem CallA.frame {mk : List Value → Args} {fa : Addr} {args argsB : List AV} {objs objsS objsS' : List AO} {x : AV} {sel : List Nat} (h : CallA prog K mk d fa args objsS x objsS') (hnd : sel.Nodup) (hlim : ∀ i ∈ sel, i < objs.length) (hren : renOs sel objs sel = some objsS) (hargs : renVs sel argsB = some args) (hlen : sel.length ≤ objsS'.length) :
    CallA prog K mk d fa argsB objs (embV (back sel objs.length) x) (over sel (objsS'.map (embO (back sel objs.length))) 0 objs ++ (objsS'.drop sel.length).map (embO (back sel objs.length))) := CallG.frame (cd := fun vs => .call (.ref fa) (mk vs)) h hnd hlim hren hargs hlen
theorem CallT.frame {fa : Addr} {args argsB : List AV} {objs objsS objsS' : List AO} {x : AV} {sel : List Nat} (h : CallT prog K d fa args objsS x objsS') (hnd : sel.Nodup) (hlim : ∀ i ∈ sel, i < objs.length) (hren : renOs sel objs sel = some objsS) (hargs : renVs sel argsB = some args) (hlen : sel.length ≤ objsS'.length) :
    CallT prog K d fa argsB objs (embV (back sel objs.length) x) (over sel (objsS'.map (embO (back sel objs.length))) 0 objs ++ (objsS'.drop sel.length).map (embO (back sel objs.length))) :=
  CallA.frame (mk := fun vs => ⟨vs, []⟩) h hnd hlim hren hargs hlen
/-- what is not picked is let go -/
theorem CallG.gc {cd : List Value → Code} {args : List AV} {objs objs' objs'' : List AO} {x x' : AV} {sel : List Nat} (h : CallG prog K cd d args objs x objs') (hnd : sel.Nodup) (h0 : ∀ i, i < objs.length → sel[i]? = some i) (hlim : ∀ i ∈ sel, i < objs'.length) (hren : renOs sel objs' sel = some objs'') (hx : renV sel x = some x') :
    CallG prog K cd d args objs x' objs'' := by
  intro f c σ hf ok hσ as os m s vs Q E R rvs hq
  subst hσ
  refine h f c σ hf ok rfl as os m s vs Q E R rvs fun bs os' m' v s' rv R' => ?_
  have la : σ.objs.length = as.length := R.len'
  have lo : objs'.length = (as ++ bs).length := R'.len'
  have lim : ∀ i ∈ sel, i < (as ++ bs).length := fun i hi => by rw [← lo]; exact hlim i hi
  have limo : ∀ i ∈ sel, i < os'.length := fun i hi => by rw [R'.len]; exact lim i hi
  have relA : RelA sel (as ++ bs) (pickA 0 sel (as ++ bs)) := fun k i hk a ha => by rw [pickA_get lim hk]; exact ha
  obtain ⟨rl, rg⟩ := renOs_get hren
  have hpre : ∀ i, i < as.length → (pickA 0 sel (as ++ bs))[i]? = as[i]? := fun i hi => by
    rw [pickA_get lim (h0 i (by rw [la]; exact hi)), List.getElem?_append_left hi]
  have hsplit : pickA 0 sel (as ++ bs) = as ++ (pickA 0 sel (as ++ bs)).drop as.length := by
    have : as = (pickA 0 sel (as ++ bs)).take as.length := by
      refine List.ext_getElem? fun i => ?_
      rw [List.getElem?_take]
      by_cases hi : i < as.length
      · rw [if_pos hi, hpre i hi]
      · rw [if_neg hi]; exact List.getElem?_eq_none_iff.mpr (Nat.le_of_not_lt hi)
    conv => rhs; rw [show as ++ (pickA 0 sel (as ++ bs)).drop as.length = (pickA 0 sel (as ++ bs)).take as.length ++ (pickA 0 sel (as ++ bs)).drop as.length from by rw [← this]]
    exact (List.take_append_drop ..).symm
  have nd := List.nodup_append.mp R'.nodup
  have RR : At c (pickA 0 sel (as ++ bs)) (pickA default sel os') m' { σ with objs := objs'' } s' :=
    { gens := R'.gens, os_ := R'.os_, fr := R'.fr
      news := fun p hp => by
        rcases List.mem_append.mp hp with hp | hp
        · exact R'.news p (List.mem_append_left _ (pickA_zip lim R'.len p hp))
        · exact R'.news p (List.mem_append_right _ hp)
      len := by simp [pickA]
      len' := by simp [pickA, rl]
      nodup := by
        rw [List.nodup_append]
        refine ⟨pickA_nodup nd.1 hnd lim, nd.2.1, fun a ha b hb => ?_⟩
        obtain ⟨i, _, e⟩ := pickA_mem lim ha
        exact nd.2.2 _ (List.mem_of_getElem? e) _ hb
      objs := fun k bo o h1 h2 => by
        obtain ⟨i, ao, e1, e2, e3⟩ := rg k bo h1
        rw [pickA_get limo e1] at h2
        exact (R'.objs i ao o e2 h2).ren relA e3
      locs := fun z av hz => by
        obtain ⟨v, h1, h2⟩ := R'.locs z av hz
        obtain ⟨v₀, h3, h4⟩ := R.locs z av hz
        refine ⟨v, h1, ?_⟩
        rw [hsplit]
        cases av with
        | obj i =>
          obtain ⟨a, e1, e2⟩ := h2
          obtain ⟨a', e3, _⟩ := h4
          have hi := (List.getElem?_eq_some_iff.mp e3).1
          rw [List.getElem?_append_left hi] at e1
          exact ⟨a, getElem?_app e1, e2⟩
        | _ => exact h2
      keys := R'.keys
      cells := fun z i hz => by
        obtain ⟨a, h1, h2⟩ := R.cells z i hz
        exact ⟨a, h1, by rw [hsplit]; exact getElem?_app h2⟩
      comp := R'.comp }
  have rv' := rv.ren relA hx
  rw [hsplit] at RR rv'
  exact hq _ _ _ _ _ rv' RR
theorem CallA.gc {mk : List Value → Args} {fa : Addr} {args : List AV} {objs objs' objs'' : List AO} {x x' : AV} {sel : List Nat} (h : CallA prog K mk d fa args objs x objs') (hnd : sel.Nodup) (h0 : ∀ i, i < objs.length → sel[i]? = some i) (hlim : ∀ i ∈ sel, i < objs'.length) (hren : renOs sel objs' sel = some objs'') (hx : renV sel x = some x') :
    CallA prog K mk d fa args objs x' objs'' := CallG.gc (cd := fun vs => .call (.ref fa) (mk vs)) h hnd h0 hlim hren hx
theorem CallT.gc {fa : Addr} {args : List AV} {objs objs' objs'' : List AO} {x x' : AV} {sel : List Nat} (h : CallT prog K d fa args objs x objs') (hnd : sel.Nodup) (h0 : ∀ i, i < objs.length → sel[i]? = some i) (hlim : ∀ i ∈ sel, i < objs'.length) (hren : renOs sel objs' sel = some objs'') (hx : renV sel x = some x') :
    CallT prog K d fa args objs x' objs'' := CallA.gc (mk := fun vs => ⟨vs, []⟩) h hnd h0 hlim hren hx
end
noncomputable def renLs (sel : List Nat) : List (Str × Option AV) → Option (List (Str × Option AV))
  | [] => some []
  | (x, none) :: r => match renLs sel r with
    | some l => some ((x, none) :: l)
    | none => none
  | (x, some v) :: r => match renV sel v with
    | some w => match renLs sel r with
      | some l => some ((x, some w) :: l)
      | none => none
    | none => none
noncomputable def renCs (sel : List Nat) : List (Str × Nat) → Option (List (Str × Nat))
  | [] => some []
  | (x, i) :: r => match idx i sel with
    | some k => match renCs sel r with
      | some l => some ((x, k) :: l)
      | none => none
    | none => none
theorem renLs_of {sel : List Nat} : ∀ {l l' : List (Str × Option AV)}, renLs sel l = some l' → l'.map (·.1) = l.map (·.1) ∧ ∀ x w, (x, some w) ∈ l' → ∃ v, (x, some v) ∈ l ∧ renV sel v = some w
  | [], l', h => by cases h; exact ⟨rfl, fun _ _ h => nomatch h⟩
  | (x, none) :: r, l', h => by
    unfold renLs at h
    cases e : renLs sel r with
    | none => rw [e] at h; first | exact no_ h | cases h
    | some l =>
      rw [e] at h; first | exact no_ h | cases h
      obtain ⟨h1, h2⟩ := renLs_of e
      refine ⟨by simp [h1], fun y w hy => ?_⟩
      rcases List.mem_cons.mp hy with q | hy
      · cases q
      · obtain ⟨v, a, b⟩ := h2 y w hy; exact ⟨v, .tail _ a, b⟩
  | (x, some v) :: r, l', h => by
    unfold renLs at h
    cases q : renV sel v with
    | none => rw [q] at h; first | exact no_ h | cases h
    | some w =>
      rw [q] at h
      dsimp only at h
      cases e : renLs sel r with
      | none => rw [e] at h; first | exact no_ h | cases h
      | some l =>
        rw [e] at h; first | exact no_ h | cases h
        obtain ⟨h1, h2⟩ := renLs_of e
        refine ⟨by simp [h1], fun y w' hy => ?_⟩
        rcases List.mem_cons.mp hy with q' | hy
        · cases q'; exact ⟨v, .head _, q⟩
        · obtain ⟨v', a, b⟩ := h2 y w' hy; exact ⟨v', .tail _ a, b⟩
theorem renCs_of {sel : List Nat} : ∀ {l l' : List (Str × Nat)}, renCs sel l = some l' → ∀ x k, (x, k) ∈ l' → ∃ i, (x, i) ∈ l ∧ idx i sel = some k
  | [], l', h => by cases h; exact fun _ _ h => nomatch h
  | (x, i) :: r, l', h => by
    unfold renCs at h
    cases q : idx i sel with
    | none => rw [q] at h; first | exact no_ h | cases h
    | some k =>
      rw [q] at h
      dsimp only at h
      cases e : renCs sel r with
      | none => rw [e] at h; first | exact no_ h | cases h
      | some l =>
        rw [e] at h; first | exact no_ h | cases h
        intro y k' hy
        rcases List.mem_cons.mp hy with q' | hy
        · cases q'; exact ⟨i, .head _, q⟩
        · obtain ⟨j, a, b⟩ := renCs_of e y k' hy; exact ⟨j, .tail _ a, b⟩
noncomputable def renS (sel : List Nat) (σ : S) : Option S := match renOs sel σ.objs sel with
  | some o => match renLs sel σ.locs with
    | some l => match renCs sel σ.cells with
      | some c => some ⟨o, l, c⟩
      | none => none
    | none => none
  | none => none
theorem At.gc {c : Cx} {as bs : List Addr} {os : List Obj} {m : Str → Option Value} {σ' σ'' : S} {s : Shared} {sel : List Nat} (R : At c (as ++ bs) os m σ' s) (hnd : sel.Nodup) (h0 : ∀ i, i < as.length → sel[i]? = some i) (hlim : ∀ i ∈ sel, i < σ'.objs.length) (hren : renS sel σ' = some σ'') :
    ∃ bs' os'', At c (as ++ bs') os'' m σ'' s ∧ RelA sel (as ++ bs) (as ++ bs') := by
  unfold renS at hren
  cases q1 : renOs sel σ'.objs sel with
  | none => rw [q1] at hren; cases hren
  | some ob =>
  rw [q1] at hren
  dsimp only at hren
  cases q2 : renLs sel σ'.locs with
  | none => rw [q2] at hren; cases hren
  | some lo =>
  rw [q2] at hren
  dsimp only at hren
  cases q3 : renCs sel σ'.cells with
  | none => rw [q3] at hren; cases hren
  | some ce =>
  rw [q3] at hren
  cases hren
  have lo' : σ'.objs.length = (as ++ bs).length := R.len'
  have lim : ∀ i ∈ sel, i < (as ++ bs).length := fun i hi => by rw [← lo']; exact hlim i hi
  have limo : ∀ i ∈ sel, i < os.length := fun i hi => by rw [R.len]; exact lim i hi
  have relA : RelA sel (as ++ bs) (pickA 0 sel (as ++ bs)) := fun k i hk a ha => by rw [pickA_get lim hk]; exact ha
  obtain ⟨rl, rg⟩ := renOs_get q1
  have hpre : ∀ i, i < as.length → (pickA 0 sel (as ++ bs))[i]? = as[i]? := fun i hi => by
    rw [pickA_get lim (h0 i hi), List.getElem?_append_left hi]
  have hsplit : pickA 0 sel (as ++ bs) = as ++ (pickA 0 sel (as ++ bs)).drop as.length := by
    have : as = (pickA 0 sel (as ++ bs)).take as.length := by
      refine List.ext_getElem? fun i => ?_
      rw [List.getElem?_take]
      by_cases hi : i < as.length
      · rw [if_pos hi, hpre i hi]
      · rw [if_neg hi]; exact List.getElem?_eq_none_iff.mpr (Nat.le_of_not_lt hi)
    conv => rhs; rw [show as ++ (pickA 0 sel (as ++ bs)).drop as.length = (pickA 0 sel (as ++ bs)).take as.length ++ (pickA 0 sel (as ++ bs)).drop as.length from by rw [← this]]
    exact (List.take_append_drop ..).symm
  have nd := List.nodup_append.mp R.nodup
  have RR : At c (pickA 0 sel (as ++ bs)) (pickA default sel os) m ⟨ob, lo, ce⟩ s :=
    { gens := R.gens, os_ := R.os_, fr := R.fr
      news := fun p hp => by
        rcases List.mem_append.mp hp with hp | hp
        · exact R.news p (List.mem_append_left _ (pickA_zip lim R.len p hp))
        · exact R.news p (List.mem_append_right _ hp)
      len := by simp [pickA]
      len' := by simp [pickA, rl]
      nodup := by
        rw [List.nodup_append]
        refine ⟨pickA_nodup nd.1 hnd lim, nd.2.1, fun a ha b hb => ?_⟩
        obtain ⟨i, _, e⟩ := pickA_mem lim ha
        exact nd.2.2 _ (List.mem_of_getElem? e) _ hb
      objs := fun k bo o h1 h2 => by
        obtain ⟨i, ao, e1, e2, e3⟩ := rg k bo h1
        rw [pickA_get limo e1] at h2
        exact (R.objs i ao o e2 h2).ren relA e3
      locs := fun z av hz => by
        obtain ⟨v, h1, h2⟩ := (renLs_of q2).2 z av hz
        obtain ⟨u, h3, h4⟩ := R.locs z v h1
        exact ⟨u, h3, h4.ren relA h2⟩
      keys := by rw [(renLs_of q2).1]; exact R.keys
      cells := fun z k hz => by
        obtain ⟨i, h1, h2⟩ := renCs_of q3 z k hz
        obtain ⟨a, h3, h4⟩ := R.cells z i h1
        exact ⟨a, h3, relA _ _ (idx_of h2) a h4⟩
      comp := R.comp }
  rw [hsplit] at RR relA
  exact ⟨_, _, RR, relA⟩
noncomputable def renOut (sel : List Nat) : Out → Option Out
  | .ret v => match renV sel v with
    | some w => some (.ret w)
    | none => none
  | o => some o
/-- the old ones first -/
noncomputable def preB : Nat → List Nat → Nat → Bool
  | 0, _, _ => true
  | n + 1, j :: r, i => match Nat.beq j i with
    | true => preB n r (Nat.succ i)
    | false => false
  | _ + 1, [], _ => false
theorem preB_of : ∀ {n : Nat} {l : List Nat} {i : Nat}, preB n l i = true → ∀ k, k < n → l[k]? = some (i + k)
  | 0, _, _, _, k, h => absurd h (Nat.not_lt_zero k)
  | n + 1, [], _, h, _, _ => nomatch h
  | n + 1, j :: r, i, h, k, hk => by
    unfold preB at h
    cases e : Nat.beq j i with
    | false => rw [e] at h; first | exact no_ h | cases h
    | true =>
      rw [e] at h
      cases k with
      | zero => rw [Nat.eq_of_beq_eq_true e]; rfl
      | succ k =>
        rw [List.getElem?_cons_succ, preB_of h k (by lia)]
        congr 1
        lia
noncomputable def nodupB : List Nat → Bool
  | [] => true
  | a :: r => match idx a r with
    | none => nodupB r
    | some _ => false
theorem nodupB_of : ∀ {l : List Nat}, nodupB l = true → l.Nodup
  | [], _ => .nil
  | a :: r, h => by
    unfold nodupB at h
    cases e : idx a r with
    | some k => rw [e] at h; first | exact no_ h | cases h
    | none => rw [e] at h; exact List.nodup_cons.mpr ⟨idx_none e, nodupB_of h⟩
noncomputable def ltB (n : Nat) : List Nat → Bool
  | [] => true
  | a :: r => match Nat.blt a n with
    | true => ltB n r
    | false => false
theorem ltB_of {n : Nat} : ∀ {l : List Nat}, ltB n l = true → ∀ i ∈ l, i < n
  | [], _, _, h => nomatch h
  | a :: r, h, i, hi => by
    unfold ltB at h
    cases e : Nat.blt a n with
    | false => rw [e] at h; first | exact no_ h | cases h
    | true =>
      rw [e] at h
      rcases List.mem_cons.mp hi with rfl | hi
      · exact Nat.le_of_ble_eq_true e
      · exact ltB_of h i hi
noncomputable def selOk (n n' : Nat) (sel : List Nat) : Bool := match nodupB sel with
  | true => match preB n sel 0 with
    | true => ltB n' sel
    | false => false
  | false => false
theorem selOk_of {n n' : Nat} {sel : List Nat} (h : selOk n n' sel = true) : sel.Nodup ∧ (∀ i, i < n → sel[i]? = some i) ∧ ∀ i ∈ sel, i < n' := by
  unfold selOk at h
  cases e : nodupB sel with
  | false => rw [e] at h; first | exact no_ h | cases h
  | true =>
    rw [e] at h
    dsimp only at h
    cases e2 : preB n sel 0 with
    | false => rw [e2] at h; first | exact no_ h | cases h
    | true =>
      rw [e2] at h
      exact ⟨nodupB_of e, fun i hi => by have := preB_of e2 i hi; rwa [Nat.zero_add] at this, ltB_of h⟩
section
variable {prog : Program} {K : Params → Frag} {f : Fx} {d : Nat} {σ σ' σ'' : S} {sel : List Nat}
theorem EvS.gc {st : Stmt} {out out' : Out} (h : EvS prog K f d st σ out σ') (hs : selOk σ.objs.length σ'.objs.length sel = true) (hr : renS sel σ' = some σ'') (ho : renOut sel out = some out') : EvS prog K f d st σ out' σ'' := by
  intro c ok as os m s Q E R hq
  refine h c ok as os m s Q E R fun bs os' m' v s' rv R' => ?_
  obtain ⟨h1, h2, h3⟩ := selOk_of hs
  obtain ⟨bs', os'', R'', rel⟩ := R'.gc h1 (fun i hi => h2 i (by rw [R.len']; exact hi)) h3 hr
  refine hq bs' os'' m' v s' ?_ R''
  cases out <;> first | (cases ho; exact rv) | skip
  unfold renOut at ho
  split at ho
  · rename_i e
    cases e
    split at ho
    · rename_i e
      cases ho
      obtain ⟨u, h1, h2⟩ := rv
      exact ⟨u, h1, h2.ren rel e⟩
    · cases ho
  · rename_i e
    exact absurd rfl (e _)
theorem EvB.gc {st : List Stmt} {out out' : Out} (h : EvB prog K f d st σ out σ') (hs : selOk σ.objs.length σ'.objs.length sel = true) (hr : renS sel σ' = some σ'') (ho : renOut sel out = some out') : EvB prog K f d st σ out' σ'' := by
  intro c ok as os m s Q E R hq
  refine h c ok as os m s Q E R fun bs os' m' v s' rv R' => ?_
  obtain ⟨h1, h2, h3⟩ := selOk_of hs
  obtain ⟨bs', os'', R'', rel⟩ := R'.gc h1 (fun i hi => h2 i (by rw [R.len']; exact hi)) h3 hr
  refine hq bs' os'' m' v s' ?_ R''
  cases out <;> first | (cases ho; exact rv) | skip
  unfold renOut at ho
  split at ho
  · rename_i e
    cases e
    split at ho
    · rename_i e
      cases ho
      obtain ⟨u, h1, h2⟩ := rv
      exact ⟨u, h1, h2.ren rel e⟩
    · cases ho
  · rename_i e
    exact absurd rfl (e _)
/-- less may be told -/
inductive WkLs : List (Str × Option AV) → List (Str × Option AV) → Prop
  | nil : WkLs [] []
  | some {x v w l l'} : WkV v w → WkLs l l' → WkLs ((x, some v) :: l) ((x, some w) :: l')
  | none {x v l l'} : WkLs l l' → WkLs ((x, v) :: l) ((x, none) :: l')
theorem WkLs.keys {l l' : List (Str × Option AV)} (h : WkLs l l') : l'.map (·.1) = l.map (·.1) := by
  induction h with
  | nil => rfl
  | some _ _ ih => simp [ih]
  | none _ ih => simp [ih]
theorem WkLs.mem {l l' : List (Str × Option AV)} (h : WkLs l l') : ∀ x w, (x, Option.some w) ∈ l' → ∃ v, (x, Option.some v) ∈ l ∧ WkV v w := by
  induction h with
  | nil => exact fun _ _ h => nomatch h
  | some q _ ih =>
    intro x w hx
    rcases List.mem_cons.mp hx with e | hx
    · cases e; exact ⟨_, .head _, q⟩
    · obtain ⟨v, a, b⟩ := ih x w hx; exact ⟨v, .tail _ a, b⟩
  | none _ ih =>
    intro x w hx
    rcases List.mem_cons.mp hx with e | hx
    · cases e
    · obtain ⟨v, a, b⟩ := ih x w hx; exact ⟨v, .tail _ a, b⟩
theorem WkLs.refl : ∀ {l : List (Str × Option AV)}, WkLs l l
  | [] => .nil
  | (_, .some _) :: _ => .some .refl .refl
  | (_, .none) :: _ => .none .refl
theorem At.wkS {c : Cx} {as : List Addr} {os : List Obj} {m : Str → Option Value} {s : Shared} (R : At c as os m σ s) (w : WkOs σ.objs σ'.objs) (l : WkLs σ.locs σ'.locs) (hc : σ'.cells = σ.cells) : At c as os m σ' s :=
  { gens := R.gens, os_ := R.os_, fr := R.fr, news := R.news, len := R.len, nodup := R.nodup, comp := R.comp
    len' := by rw [← R.len']; exact w.length.symm
    objs := fun i ao o e1 e2 => by
      obtain ⟨a, h1, h2⟩ := w.get i ao e1
      exact h2 _ _ _ (R.objs i a o h1 e2)
    locs := fun x av hx => by
      obtain ⟨v, h1, h2⟩ := l.mem x av hx
      obtain ⟨u, h3, h4⟩ := R.locs x v h1
      exact ⟨u, h3, h2 _ _ h4⟩
    keys := by rw [l.keys]; exact R.keys
    cells := fun x i hx => R.cells x i (hc ▸ hx) }
theorem EvS.wk {st : Stmt} {out : Out} (h : EvS prog K f d st σ out σ') (w : WkOs σ'.objs σ''.objs) (l : WkLs σ'.locs σ''.locs) (hc : σ''.cells = σ'.cells) : EvS prog K f d st σ out σ'' := by
  intro c ok as os m s Q E R hq
  exact h c ok as os m s Q E R fun bs os' m' v s' rv R' => hq bs os' m' v s' rv (R'.wkS w l hc)
theorem EvB.wk {st : List Stmt} {out : Out} (h : EvB prog K f d st σ out σ') (w : WkOs σ'.objs σ''.objs) (l : WkLs σ'.locs σ''.locs) (hc : σ''.cells = σ'.cells) : EvB prog K f d st σ out σ'' := by
  intro c ok as os m s Q E R hq
  exact h c ok as os m s Q E R fun bs os' m' v s' rv R' => hq bs os' m' v s' rv (R'.wkS w l hc)
end
inductive TurnsG (prog : Program) (K : Params → Frag) (f : Fx) (d : Nat) (n₀ : Nat) (target : Expr) (body : List Stmt) (Kp : S → Prop) : List AV → S → Out → S → Prop
  | nil {τ : S} : Kp τ → TurnsG prog K f d n₀ target body Kp [] τ .next τ
  | next {x xs} {τ τ₁ τ₂ τ' : S} {o o' : Out} : Kp τ → EvAs prog K f d target x τ τ₁ → EvB prog K f d body τ₁ o τ₂ → (o = .next ∨ o = .cont) → TurnsG prog K f d n₀ target body Kp xs τ₂ o' τ' → TurnsG prog K f d n₀ target body Kp (x :: xs) τ o' τ'
  | brk {x xs} {τ τ₁ τ' : S} : Kp τ → EvAs prog K f d target x τ τ₁ → EvB prog K f d body τ₁ .brk τ' → TurnsG prog K f d n₀ target body Kp (x :: xs) τ .next τ'
  | ret {x xs v} {τ τ₁ τ' : S} : Kp τ → EvAs prog K f d target x τ τ₁ → EvB prog K f d body τ₁ (.ret v) τ' → TurnsG prog K f d n₀ target body Kp (x :: xs) τ (.ret v) τ'
  | nextG {x xs} {τ τ₁ τ₂ τ₃ τ' : S} {o o' : Out} {sel : List Nat} : Kp τ → EvAs prog K f d target x τ τ₁ → EvB prog K f d body τ₁ o τ₂ → (o = .next ∨ o = .cont) → selOk n₀ τ₂.objs.length sel = true → renS sel τ₂ = some τ₃ → TurnsG prog K f d n₀ target body Kp xs τ₃ o' τ' → TurnsG prog K f d n₀ target body Kp (x :: xs) τ o' τ'
/-- a turn, taken apart -/
inductive TStep (prog : Program) (K : Params → Frag) (f : Fx) (d : Nat) (n₀ : Nat) (target : Expr) (body : List Stmt) (Kp : S → Prop) (x : AV) (xs : List AV) (τ : S) (o' : Out) (τ' : S) : Prop
  | next (τ₁ τ₂ : S) (o : Out) (h1 : EvAs prog K f d target x τ τ₁) (h2 : EvB prog K f d body τ₁ o τ₂) (hn : o = .next ∨ o = .cont) (T : TurnsG prog K f d n₀ target body Kp xs τ₂ o' τ') : TStep prog K f d n₀ target body Kp x xs τ o' τ'
  | brk (τ₁ : S) (h1 : EvAs prog K f d target x τ τ₁) (h2 : EvB prog K f d body τ₁ .brk τ') (ho : o' = .next) : TStep prog K f d n₀ target body Kp x xs τ o' τ'
  | ret (τ₁ : S) (v : AV) (h1 : EvAs prog K f d target x τ τ₁) (h2 : EvB prog K f d body τ₁ (.ret v) τ') (ho : o' = .ret v) : TStep prog K f d n₀ target body Kp x xs τ o' τ'
  | nextG (τ₁ τ₂ τ₃ : S) (o : Out) (sel : List Nat) (h1 : EvAs prog K f d target x τ τ₁) (h2 : EvB prog K f d body τ₁ o τ₂) (hn : o = .next ∨ o = .cont) (hs : selOk n₀ τ₂.objs.length sel = true) (hr : renS sel τ₂ = some τ₃) (T : TurnsG prog K f d n₀ target body Kp xs τ₃ o' τ') : TStep prog K f d n₀ target body Kp x xs τ o' τ'
theorem TurnsG.inv {prog : Program} {K : Params → Frag} {f : Fx} {d n₀ : Nat} {target : Expr} {body : List Stmt} {Kp : S → Prop} {x : AV} {xs : List AV} {τ τ' : S} {o' : Out} (T : TurnsG prog K f d n₀ target body Kp (x :: xs) τ o' τ') : Kp τ ∧ TStep prog K f d n₀ target body Kp x xs τ o' τ' := by
  cases T with
  | next k h1 h2 hn T' => exact ⟨k, .next _ _ _ h1 h2 hn T'⟩
  | brk k h1 h2 => exact ⟨k, .brk _ h1 h2 rfl⟩
  | ret k h1 h2 => exact ⟨k, .ret _ _ h1 h2 rfl⟩
  | nextG k h1 h2 hn hs hr T' => exact ⟨k, .nextG _ _ _ _ _ h1 h2 hn hs hr T'⟩
theorem TurnsG.end_ {prog : Program} {K : Params → Frag} {f : Fx} {d n₀ : Nat} {target : Expr} {body : List Stmt} {Kp : S → Prop} {τ τ' : S} {o' : Out} (T : TurnsG prog K f d n₀ target body Kp [] τ o' τ') : Kp τ ∧ o' = .next ∧ τ' = τ := by
  cases T with
  | nil k => exact ⟨k, rfl, rfl⟩
section
variable {prog : Program} {K : Params → Frag} {f : Fx} {d : Nat} {σ σ₁ σ₂ σ₃ : S} {c : Cx} {as : List Addr} {os : List Obj} {m : Str → Option Value} {s : Shared} {I : Addr} {o o' : Obj}
theorem Turns.toG {n₀ : Nat} {target : Expr} {body : List Stmt} {Kp : S → Prop} {items : List AV} {out : Out} {σ σ' : S} (h : Turns prog K f d target body Kp items σ out σ') : TurnsG prog K f d n₀ target body Kp items σ out σ' := by
  induction h with
  | nil k => exact .nil k
  | next k a b e _ ih => exact .next k a b e ih
  | brk k a b => exact .brk k a b
  | ret k a b => exact .ret k a b
theorem body_run {target : Expr} {body : List Stmt} {x : AV} {v : Value} {τ τ₁ τ₂ : S} {o' : Out} (ok : Ok K f d c) (h1 : EvAs prog K f d target x τ τ₁) (h2 : EvB prog K f d body τ₁ o' τ₂) (R : At c as os m τ s) (rv : RV as x v) {Q : Flow → Shared → Prop} {E₁ E₂ : Value → Shared → Prop}
    (hq : ∀ bs os' m' v s', ROut (as ++ bs) o' v → At c (as ++ bs) os' m' τ₂ s' → Q v s') : wpAny (model prog c.w) c.A (assign target c.env v) (fun _ s₂ => wpAny (model prog c.w) c.A (execs body c.env) Q E₂ s₂) E₁ s := by
  refine h1 c ok as os m s v _ _ R rv fun bs₂ os₂ m₂ s₂ R₂ => ?_
  refine h2 c ok _ os₂ m₂ s₂ _ _ R₂ fun bs₃ os₃ m₃ u s₃ ru R₃ => ?_
  rw [List.append_assoc] at ru R₃
  exact hq (bs₂ ++ bs₃) os₃ m₃ u s₃ ru R₃
/-- what is true ahead of each turn -/
inductive GInv (prog : Program) (K : Params → Frag) (f : Fx) (d n₀ : Nat) (target : Expr) (body : List Stmt) (Kp : S → Prop) (items : List AV) (It : Nat → Obj → Prop) (c : Cx) (as : List Addr) (I : Addr) (out : Out) (σ' : S) (n : Nat) (s : Shared) : Prop
  | mk (k : Nat) (bs : List Addr) (os : List Obj) (m : Str → Option Value) (τ : S) (o : Obj) (hn : n = items.length - k) (hk : k ≤ items.length) (R : At (addR c I o) (as ++ bs) os m τ s) (hI : It k o) (T : TurnsG prog K f d n₀ target body Kp (items.drop k) τ out σ') : GInv prog K f d n₀ target body Kp items It c as I out σ' n s
theorem turns_runG {n₀ : Nat} {target : Expr} {body : List Stmt} {Kp : S → Prop} {items : List AV} {It : Nat → Obj → Prop} {out : Out} {σ σ' : S} (ok : Ok K f d c) (W : Src prog K f d target c as I Kp items It) (ht : TurnsG prog K f d n₀ target body Kp items σ out σ')
    (hn₀ : as.length = n₀) (R : At (addR c I o) as os m σ s) (hI : It 0 o) {RR : Result → Shared → Prop} (hq : ∀ bs os' m' v s', ROut (as ++ bs) out v → At c (as ++ bs) os' m' σ' s' → RR (.ok v) s') : codeAny (model prog c.w) c.A (.forLoop target (.ref I) body [] c.env) RR s := by
  refine codeAny_forLoop_any (GInv prog K f d n₀ target body Kp items It c as I out σ') ?_ (items.length - 0)
    (.mk 0 [] os m σ o rfl (Nat.zero_le _) (by rw [app_nil]; exact R) hI (by simpa using ht))
  rintro n s ⟨k, bs, os, m, τ, o, rfl, hk, R, hI, T⟩
  by_cases hlt : k < items.length
  · have hx : items[k]? = some items[k] := List.getElem?_eq_getElem hlt
    rw [List.drop_eq_getElem_cons hlt] at T
    have hT := T.inv
    refine W.next k _ bs os m τ s o _ _ R hT.1 hI hx fun v s₁ o₁ rv R₁ hI₁ => ?_
    dsimp only
    refine W.go (k + 1) v o₁ s₁ _ _ R₁.mem.1 hI₁ ?_
    have lt : items.length - (k + 1) < items.length - k := by lia
    cases hT.2 with
    | next _ _ _ h1 h2 hn T' =>
      refine body_run (ok.addR (I := I) (o := o₁)) h1 h2 R₁ rv fun bs₃ os₃ m₃ u s₃ ru R₃ => ?_
      rw [List.append_assoc] at R₃
      have key : ∃ n', n' < items.length - k ∧ GInv prog K f d n₀ target body Kp items It c as I out σ' n' s₃ := ⟨items.length - (k + 1), lt, .mk (k + 1) _ os₃ m₃ _ o₁ rfl hlt R₃ hI₁ T'⟩
      rcases hn with rfl | rfl
      · obtain rfl : u = .next := ru; exact key
      · obtain rfl : u = .cont := ru; exact key
    | nextG _ _ _ _ _ h1 h2 hn hs hr T' =>
      refine body_run (ok.addR (I := I) (o := o₁)) h1 h2 R₁ rv fun bs₃ os₃ m₃ u s₃ ru R₃ => ?_
      rw [List.append_assoc] at R₃
      obtain ⟨q1, q2, q3⟩ := selOk_of hs
      obtain ⟨bs₄, os₄, R₄, _⟩ := R₃.gc q1 (fun i hi => q2 i (by rw [← hn₀]; exact hi)) q3 hr
      have key : ∃ n', n' < items.length - k ∧ GInv prog K f d n₀ target body Kp items It c as I out σ' n' s₃ := ⟨items.length - (k + 1), lt, .mk (k + 1) _ os₄ m₃ _ o₁ rfl hlt R₄ hI₁ T'⟩
      rcases hn with rfl | rfl
      · obtain rfl : u = .next := ru; exact key
      · obtain rfl : u = .cont := ru; exact key
    | brk _ h1 h2 ho =>
      subst ho
      refine body_run (ok.addR (I := I) (o := o₁)) h1 h2 R₁ rv fun bs₃ os₃ m₃ u s₃ ru R₃ => ?_
      rw [List.append_assoc] at R₃
      obtain rfl : u = .brk := ru
      exact hq _ _ _ _ _ rfl R₃.dropR'
    | ret _ _ h1 h2 ho =>
      subst ho
      refine body_run (ok.addR (I := I) (o := o₁)) h1 h2 R₁ rv fun bs₃ os₃ m₃ u s₃ ru R₃ => ?_
      rw [List.append_assoc] at ru R₃
      obtain ⟨w, rfl, rw⟩ := ru
      exact hq _ _ _ _ _ ⟨w, rfl, rw⟩ R₃.dropR'
  · obtain rfl : k = items.length := by lia
    rw [List.drop_length] at T
    obtain ⟨kp, e1, e2⟩ := T.end_
    refine W.done bs os m _ s o _ _ R kp hI fun s' R' => ?_
    subst e1 e2
    exact wpAny_execs_nil (hq _ _ _ _ _ rfl R')
theorem EvS.forLG {target iter : Expr} {body : List Stmt} {pos : Pos} {x : AV} {xs : List AV} {out : Out} {σ' : S} (h : EvE prog K f d iter σ x σ₁) (hs : SrcL K σ₁ x xs) (tg : plainTarget target = true) (ht : TurnsG prog K f d σ₁.objs.length target body (fun τ => SrcL K τ x xs) xs σ₁ out σ')
    (hi : ∀ env x, foldedSetIterable iter env x = pure x) : EvS prog K f d (.For target iter body [] pos) σ out σ' := by
  intro c ok as os m s Q E R hq
  refine wpAny_For (h c ok as os m s _ E R fun bs os₁ m₁ v s₁ rv R₁ => ?_) (hi _)
  obtain ⟨t, vs, rfl, hl, rs⟩ := hs.at ok R₁ rv
  refine wpAny_pyIter_list hl ?_
  refine turns_runG ok (src_list ok tg rv) ht R₁.len'.symm (R₁.pushR (Heap.get?_push_size _ rfl)) ⟨rfl, rfl⟩ fun bs₂ os₂ m₂ v s₂ rv R₂ => ?_
  rw [List.append_assoc] at rv R₂
  exact hq _ _ _ _ _ rv R₂
theorem EvS.forL {target iter : Expr} {body : List Stmt} {pos : Pos} {x : AV} {xs : List AV} {out : Out} {σ' : S} (h : EvE prog K f d iter σ x σ₁) (hs : SrcL K σ₁ x xs) (tg : plainTarget target = true) (ht : Turns prog K f d target body (fun τ => SrcL K τ x xs) xs σ₁ out σ')
    (hi : ∀ env x, foldedSetIterable iter env x = pure x) : EvS prog K f d (.For target iter body [] pos) σ out σ' := .forLG h hs tg ht.toG hi
theorem EvS.forRG {y : Str} {py : Pos} {iter : Expr} {body : List Stmt} {pos : Pos} {i n : Nat} {a b k : Int} {out : Out} {σ' : S} (h : EvE prog K f d iter σ (.obj i) σ₁) (ho : σ₁.objs[i]? = some (.rng a b k)) (hsm : Builtin.Range.small a b k = true) (hn : Builtin.Range.rangeSize a b k = (n : Int))
    (ht : TurnsG prog K f d σ₁.objs.length (.Name y py) body (fun _ => True) (rangeAV a k 0 n) σ₁ out σ')
    (hi : ∀ env x, foldedSetIterable iter env x = pure x) : EvS prog K f d (.For (.Name y py) iter body [] pos) σ out σ' := by
  intro c ok as os m s Q E R hq
  refine wpAny_For (h c ok as os m s _ E R fun bs os₁ m₁ v s₁ rv R₁ => ?_) (hi _)
  obtain ⟨q, o, g1, _, _, g2, t, u, v', rfl⟩ := R₁.obj ho
  obtain ⟨q', e, rfl⟩ := rv
  rw [g1] at e; cases e
  refine wpAny_pyIter_range g2 hsm ?_
  refine turns_runG ok (src_range ok) ht R₁.len'.symm (R₁.pushR (Heap.get?_push_size _ rfl)) (by unfold isRangeIter; rw [hn]; simp) fun bs₂ os₂ m₂ v s₂ rv R₂ => ?_
  rw [List.append_assoc] at rv R₂
  exact hq _ _ _ _ _ rv R₂
end
section
variable {prog : Program} {K : Params → Frag} {f : Fx} {d : Nat} {σ σ₁ σ₂ σ₃ : S}
/-- the named arguments -/
inductive EvKw (prog : Program) (K : Params → Frag) (f : Fx) (d : Nat) : List Keyword → S → List Str → List AV → S → Prop
  | nil {τ : S} : EvKw prog K f d [] τ [] [] τ
  | cons {n e p ks ns x xs} {τ τ₁ τ₂ : S} : EvE prog K f d e τ x τ₁ → EvKw prog K f d ks τ₁ ns xs τ₂ → EvKw prog K f d (⟨some n, e, p⟩ :: ks) τ (n :: ns) (x :: xs) τ₂
theorem EvKw.names {kws : List Keyword} {ns : List Str} {xs : List AV} (h : EvKw prog K f d kws σ ns xs σ₁) (pos : Pos) (env : Env) : (backToKw pos (keywordEach kws env)).filterMap (·.1) = ns ∧ (backToKw pos (keywordEach kws env)).all (·.1.isSome) = true ∧ (backToKw pos (keywordEach kws env)).any (·.1.isNone) = false ∧ xs.length = ns.length := by
  induction h with
  | nil => exact ⟨rfl, rfl, rfl, rfl⟩
  | cons _ _ ih =>
    obtain ⟨h1, h2, h3, h4⟩ := ih
    exact ⟨congrArg (_ :: ·) h1, h2, h3, by simp [h4]⟩
theorem EvKw.run {kws : List Keyword} {ns : List Str} {xs : List AV} (h : EvKw prog K f d kws σ ns xs σ₁) (pos : Pos) {c : Cx} (ok : Ok K f d c) : DoesVs prog c (evalAll ((backToKw pos (keywordEach kws c.env)).map (·.2))) σ xs σ₁ := by
  induction h with
  | nil =>
    intro as os m s Q E R hq
    exact wpAny_pure (hq [] os m [] s .nil (by rw [app_nil]; exact R))
  | cons h1 _ ih =>
    intro as os m s Q E R hq
    refine wpAny_evalAll_cons (wpAny_bind (h1 c ok as os m s _ E R fun bs os₁ m₁ v s₁ rv R₁ => wpAny_bind (wpAny_standAt (wpAny_pure ?_))))
    refine ih _ os₁ m₁ s₁ _ E R₁ fun bs₂ os₂ m₂ vs s₂ rvs R₂ => ?_
    rw [List.append_assoc] at rvs R₂
    exact hq _ _ _ _ _ (.cons (by rw [← List.append_assoc]; exact rv.up) rvs) R₂
theorem Ok.under1 {c : Cx} {C : Addr} {vals : List Value} {kw : List (Str × Value)} (h : Ok K f (d + 1) c) : Ok K f d { c with A := c.A.under (.builtin "type.__call__" ⟨.ref C :: vals, kw⟩) } :=
  { h with
    depth := by have := h.depth; show c.A.depth + 1 + d < _; lia
    units := by have := h.units; show c.A.units + 1 + 8 * d + 8 < _; lia
    fn := fun e => h.fn e }
theorem EvE.make {fe : Expr} {kws : List Keyword} {pos : Pos} {C fI : Addr} {ns : List Str} {xs : List AV} {objs' : List AO} (hf : f.fn = true) (h1 : EvE prog K f d fe σ (.val (.ref C)) σ₁) (hk : EvKw prog K f d kws σ₁ ns xs σ₂)
    (hfe : ∀ env : Env, eval (.Call fe [] kws pos) env = (do callWith pos (← eval fe env) [] (backTo pos (starEach [] env)) (backToKw pos (keywordEach kws env))))
    (hkeep : ∀ P, keepIn (K P) (.ref C) = true) (hm : ∀ P, makesIn (K P) C = true) (hi : ∀ P, findIn (K P) (.ref C) "__init__" = some (some (.ref fI))) (hty : ∀ P, typeIn (K P) (.ref fI) = some (.type "function"))
    (hc : CallA prog K (fun vs => ⟨vs.take 1, ns.zip (vs.drop 1)⟩) d fI (.obj (σ₂.objs.length + 1) :: xs) (σ₂.objs ++ [.attrs [], .inst C σ₂.objs.length]) (.val .none) objs') (hd : d + 2 ≤ e) :
    EvE prog K f e (.Call fe [] kws pos) σ (.obj (σ₂.objs.length + 1)) { σ₂ with objs := objs' } := by
  intro c ok as os m s Q E R hq
  have okd : Ok K f d c := ok.weak (by lia)
  obtain ⟨n1, n2, n3, n4⟩ := hk.names pos c.env
  rw [hfe]
  refine wpAny_bind (h1 c okd as os m s _ E R fun bs os₁ m₁ v s₁ rv R₁ => ?_)
  obtain rfl : v = .ref C := rv
  refine callWith_KW0 (okd.kin.keeps R₁.fr.keep) (hkeep _) n2 (hk.run pos okd _ os₁ m₁ s₁ _ E R₁ fun bs₂ os₂ m₂ ks s₂ rks R₂ => ?_) (by rw [n3]; rfl)
  have X := okd.kin.keeps R₂.fr.keep
  refine ⟨X, wpAny_call ?_⟩
  rw [n1]
  refine make_K R₂.fr R₂.news X (hm _) (hi _) (hty _) fun x dx h' F' N' lt lx => ?_
  have R₃ := R₂.new (s' := { s₂ with heap := h' }) (a := dx) (o := emptyDict) (ao := .attrs []) rfl rfl F' (fun p hp => N' p (.tail _ hp)) (not_mem_of_lt R₂.len lt) ⟨[], 0, rfl, .nil, .nil⟩
  have ndx : x ∉ (as ++ bs ++ bs₂ ++ [dx]) ++ c.rest.map (·.1) := by
    refine not_mem_of_lt (os := os₂ ++ [emptyDict]) (by rw [List.length_append, List.length_append, R₂.len]; rfl) fun p hp => ?_
    rw [List.zip_append R₂.len.symm] at hp
    rcases List.mem_append.mp hp with hp | hp
    · rcases List.mem_append.mp hp with hp | hp
      · exact Nat.lt_trans (lt p (List.mem_append_left _ hp)) lx
      · rw [List.mem_singleton.mp hp]; exact lx
    · exact Nat.lt_trans (lt p (List.mem_append_right _ hp)) lx
  have gdx : (as ++ bs ++ bs₂ ++ [dx])[σ₂.objs.length]? = some dx := by rw [R₂.len', List.getElem?_append_right (Nat.le_refl _), Nat.sub_self]; rfl
  have R₄ := R₃.new (s' := { s₂ with heap := h' }) (a := x) (o := instObj C dx) (ao := .inst C σ₂.objs.length) rfl rfl F' (fun p hp => by
    rcases List.mem_cons.mp hp with rfl | hp
    · exact N' _ (.head _)
    · exact R₃.news p hp) ndx ⟨dx, getElem?_app gdx, rfl⟩
  have rx : RV (as ++ bs ++ bs₂ ++ [dx] ++ [x]) (.obj (σ₂.objs.length + 1)) (.ref x) := ⟨x, by rw [show σ₂.objs.length + 1 = (as ++ bs ++ bs₂ ++ [dx]).length from by rw [R₂.len', List.length_append (bs := [dx])]; rfl, List.getElem?_append_right (Nat.le_refl _), Nat.sub_self]; rfl, rfl⟩
  let c1 : Cx := { c with A := c.A.under (.builtin "type.__call__" ⟨.ref C :: ([] ++ []), ns.zip ks⟩) }
  have ok1 : Ok K f (d + 1) c1 := (ok.weak (e := d + 1 + 1) hd).under1
  have R₅ : At c1 (as ++ bs ++ bs₂ ++ [dx] ++ [x]) _ _ { σ₂ with objs := (σ₂.objs ++ [.attrs []]) ++ [.inst C σ₂.objs.length] } _ := { R₄ with }
  refine codeAny_mono (hc f c1 { σ₂ with objs := σ₂.objs ++ [.attrs [], .inst C σ₂.objs.length] } hf ok1 rfl _ _ m₂ _ (.ref x :: ks) (fun v s' => v = .none ∧ Q (.ref x) s') E (by rw [List.append_assoc σ₂.objs] at R₅; exact R₅) (.cons rx rks.up.up) fun bs₃ os₃ m₃ v s₃ rv R₆ => ?_) fun r s' z => ?_
  · refine ⟨rv, ?_⟩
    have R₇ : At c (as ++ bs ++ bs₂ ++ [dx] ++ [x] ++ bs₃) os₃ m₃ { σ₂ with objs := objs' } s₃ := { R₆ with }
    have rx' := rx.up (bs := bs₃)
    simp only [List.append_assoc] at R₇ rx'
    exact hq _ _ _ _ _ (by simpa only [List.append_assoc] using rx') (by simpa only [List.append_assoc] using R₇)
  · rcases r with e | (v | _ | _ | _) <;> first | exact z | exact z.elim | exact ⟨z.1, z.2⟩
end
section
variable {prog : Program} {K : Params → Frag} {f : Fx} {d : Nat} {σ σ₁ σ₂ σ₃ : S}
/-- a list is lengthened -/
theorem blt_extend {i j : Nat} {ao bo : AO} {xs ys : List Int} {objs : List AO} (hi : objs[i]? = some ao) (hj : objs[j]? = some bo) (hx : intsO ao = some xs) (hy : intsO bo = some ys) (hz : xs.length + ys.length ≤ 60000) :
    BltT prog K d (.builtin "list.extend") [.obj i, .obj j] objs (.val .none) (objs.set i (.il (xs ++ ys))) := by
  intro f c σ ok hσ as os m s vs Q E R rvs hq
  subst hσ
  cases rvs with
  | cons r rs =>
    cases rs with
    | cons r' rs =>
      cases rs
      obtain ⟨q, e1, rfl⟩ := r
      obtain ⟨q₂, e2, rfl⟩ := r'
      obtain ⟨q', o, g1, g1', gm, g2, r⟩ := R.obj hi
      obtain ⟨q₂', o₂, h1, h1', hm, h2, r₂⟩ := R.obj hj
      rw [e1] at g1; cases g1
      rw [e2] at h1; cases h1
      obtain ⟨us, n, rfl, hu⟩ := intsO_of hx r
      obtain ⟨ws, n₂, rfl, hw⟩ := intsO_of hy r₂
      have lu : us.size = xs.length := by rw [← hu.length, Array.length_toList]
      have lw : ws.size = ys.length := by rw [← hw.length, Array.length_toList]
      obtain ⟨pre, post, q1, q2, d1, d2⟩ := (upd_zip (rest := c.rest) (listOf us n) e1 g1' R.nodup).split
      have N := R.news
      rw [q1] at N
      refine extend_in_ints (ys := us.toList) (n := n) (its2 := ws) (n2 := n₂) R.fr (by simpa using N) d1 d2 h2 hu hw (fun h' n' F' N' hi' => ?_) (by rw [Array.length_toList, lu, lw]; exact Nat.le_trans hz (by decide +kernel))
      have N'' := news_upd (upd_zip (rest := c.rest) (listOf (us.toList ++ ws.toList).toArray n') e1 g1' R.nodup) q1 (by simpa using N')
      refine hq [] (os.set i (listOf (us.toList ++ ws.toList).toArray n')) m _ _ rfl ?_
      rw [app_nil]
      exact R.upd (s' := { s with heap := h' }) rfl rfl F' N'' ⟨_, _, rfl, by simpa using hi'⟩
end
noncomputable def listI (σ : S) (x : AV) : Option (Nat × AO × List Int) := match x with
  | .obj i => opt (nth σ.objs i) fun ao => opt (intsO ao) fun xs => some (i, ao, xs)
  | _ => none
theorem listI_of {σ : S} {x : AV} {i : Nat} {ao : AO} {xs : List Int} (h : listI σ x = some (i, ao, xs)) : x = .obj i ∧ σ.objs[i]? = some ao ∧ intsO ao = some xs := by
  cases x <;> first | exact no_ h | (cases h; done) | skip
  replace h := opt_some h
  obtain ⟨ao', h1, h⟩ := h
  replace h := opt_some h
  obtain ⟨xs', h2, h⟩ := h
  cases h
  rw [nth_eq] at h1
  exact ⟨rfl, h1, h2⟩
noncomputable def bltLen (x : AV) (objs : List AO) : Option (AV × List AO × List Prop) := opt (listI ⟨objs, [], []⟩ x) fun p => some (.int p.2.2.length, objs, [p.2.2.length < 2 ^ 62])
noncomputable def isStrA : AV → Bool
  | .str _ => true
  | _ => false
noncomputable def bltIs (x : AV) (b : Blt) (objs : List AO) : Option (AV × List AO × List Prop) := match b with
  | .bool => tst (isInt x) (some (.cb false, objs, []))
  | .str => match isStrA x with
    | true => some (.cb true, objs, [])
    | false => tst (isInt x) (some (.cb false, objs, []))
  | _ => none
noncomputable def bltIsD (x y : AV) (objs : List AO) : Option (AV × List AO × List Prop) := match y with
  | .blt b => bltIs x b objs
  | _ => none
noncomputable def bltR1 (y : AV) (objs : List AO) : Option (AV × List AO × List Prop) := opt y.i? fun b => some (.obj objs.length, objs ++ [.rng 0 b 1], [])
noncomputable def args1 (xs : List AV) (k : AV → Option (AV × List AO × List Prop)) : Option (AV × List AO × List Prop) := match xs with
  | [x] => k x
  | _ => none
noncomputable def args2 (xs : List AV) (k : AV → AV → Option (AV × List AO × List Prop)) : Option (AV × List AO × List Prop) := match xs with
  | [x, y] => k x y
  | _ => none
theorem args1_of {xs : List AV} {k : AV → Option (AV × List AO × List Prop)} {v : AV × List AO × List Prop} (h : args1 xs k = some v) : ∃ x, xs = [x] ∧ k x = some v := by
  rcases xs with _ | ⟨x, _ | ⟨y, xs⟩⟩
  · exact no_ h
  · exact ⟨x, rfl, h⟩
  · exact no_ h
theorem args2_of {xs : List AV} {k : AV → AV → Option (AV × List AO × List Prop)} {v : AV × List AO × List Prop} (h : args2 xs k = some v) : ∃ x y, xs = [x, y] ∧ k x y = some v := by
  rcases xs with _ | ⟨x, _ | ⟨y, _ | ⟨z, xs⟩⟩⟩
  · exact no_ h
  · exact no_ h
  · exact ⟨x, y, rfl, h⟩
  · exact no_ h
noncomputable def bltV (b : Blt) (xs : List AV) (objs : List AO) : Option (AV × List AO × List Prop) := match b with
  | .len => args1 xs fun x => bltLen x objs
  | .isinstance => args2 xs fun x y => bltIsD x y objs
  | .range => args1 xs fun y => bltR1 y objs
  | _ => none
section
variable {prog : Program} {K : Params → Frag} {d : Nat} {objs objs' : List AO} {x : AV} {g : List Prop}
theorem finB {v : Value} {xs : List AV} {o ob ob' : List AO} {y z : AV} {g g' : List Prop} (h : some (y, ob, g) = some (z, ob', g')) (hg : ∀ p ∈ g', p) (B : (∀ p ∈ g, p) → BltT prog K d v xs o y ob) : BltT prog K d v xs o z ob' := by cases h; exact B hg
theorem bltLen_of {y : AV} (h : bltLen y objs = some (x, objs', g)) (hg : ∀ p ∈ g, p) : BltT prog K d (.builtin "len") [y] objs x objs' := by
  obtain ⟨⟨i, ao, ys⟩, h1, h'⟩ := opt_some h
  obtain ⟨rfl, h2, h3⟩ := listI_of h1
  exact finB h' hg fun hg => blt_len h2 h3 (hg _ (.head _))
theorem bltIsI_of {y : AV} {b : Blt} (hb : b = .bool ∨ b = .str) (h : tst (isInt y) (some (.cb false, objs, [])) = some (x, objs', g)) (hg : ∀ p ∈ g, p) : BltT prog K d (.builtin "isinstance") [y, .blt b] objs x objs' := by
  obtain ⟨h1, h⟩ := tst_some h
  refine finB h hg fun _ => ?_
  rcases hb with rfl | rfl
  · exact blt_isiIB h1
  · exact blt_isiIS h1
theorem bltIs_of {y : AV} {b : Blt} (h : bltIs y b objs = some (x, objs', g)) (hg : ∀ p ∈ g, p) : BltT prog K d (.builtin "isinstance") [y, .blt b] objs x objs' := by
  cases b with
  | bool => exact bltIsI_of (.inl rfl) h hg
  | str =>
    unfold bltIs at h
    cases e : isStrA y with
    | true =>
      rw [e] at h
      cases y with
      | str => exact finB h hg fun _ => blt_isiSS
      | _ => cases e
    | false =>
      rw [e] at h
      exact bltIsI_of (.inr rfl) h hg
  | _ => exact no_ h
theorem bltR1_of {u : AV} (h : bltR1 u objs = some (x, objs', g)) (hg : ∀ p ∈ g, p) : BltT prog K d (.type "range") [u] objs x objs' := by
  obtain ⟨b, h1, h⟩ := opt_some h
  exact finB h hg fun _ => blt_range1 h1
end
theorem bltV_of {prog : Program} {K : Params → Frag} {d : Nat} {b : Blt} {xs : List AV} {objs objs' : List AO} {x : AV} {g : List Prop} (h : bltV b xs objs = some (x, objs', g)) (hg : ∀ p ∈ g, p) : BltT prog K d b.value xs objs x objs' := by
  cases b with
  | len =>
    obtain ⟨y, rfl, h⟩ := args1_of h
    exact bltLen_of h hg
  | isinstance =>
    obtain ⟨y, w, rfl, h⟩ := args2_of h
    cases w with
    | blt b => exact bltIs_of h hg
    | _ => exact no_ h
  | range =>
    obtain ⟨y, rfl, h⟩ := args1_of h
    exact bltR1_of h hg
  | _ => exact no_ h
noncomputable def sizeO : AO → Option Nat
  | .list xs => some xs.length
  | .il xs => some xs.length
  | _ => none
theorem sizeO_of {ao : AO} {n : Nat} (h : sizeO ao = some n) (hn : n ≤ 60000) : ∀ P as o, RO P as ao o → ∃ vs k, o = listOf vs k ∧ vs.size ≤ 60000 := by
  intro P as o r
  cases ao <;> first | exact no_ h | (cases h; done) | skip
  · first | exact no_ h | cases h
    obtain ⟨vs, k, e, rr⟩ := r
    exact ⟨vs, k, e, by rw [← Array.length_toList, rr.length]; exact hn⟩
  · first | exact no_ h | cases h
    obtain ⟨vs, k, e, rr⟩ := r
    exact ⟨vs, k, e, by rw [← Array.length_toList, rr.length]; exact hn⟩
inductive Lm where
  | append | extend
noncomputable def lmOf (name : Str) : Option Lm := match Fast.sEq name (Str.ofString "append") with
  | true => some .append
  | false => match Fast.sEq name (Str.ofString "extend") with
    | true => some .extend
    | false => none
noncomputable def Lm.id : Lm → String
  | .append => "list.append"
  | .extend => "list.extend"
noncomputable def Lm.name : Lm → Str
  | .append => Str.ofString "append"
  | .extend => Str.ofString "extend"
theorem lmOf_of {name : Str} {l : Lm} (h : lmOf name = some l) : name = l.name := by
  unfold lmOf at h
  cases e : Fast.sEq name (Str.ofString "append") with
  | true => rw [e] at h; cases h; exact Fast.sEq_iff.mp e
  | false =>
    rw [e] at h
    dsimp only at h
    cases e2 : Fast.sEq name (Str.ofString "extend") with
    | true => rw [e2] at h; cases h; exact Fast.sEq_iff.mp e2
    | false => rw [e2] at h; first | exact no_ h | cases h
noncomputable def lmA (i : Nat) (x : AV) (objs : List AO) : Option (List AO × List Prop) := opt (nth objs i) fun ao => opt (sizeO ao) fun n => opt (appO ao x) fun bo => some (upd objs i bo, [n ≤ 60000])
noncomputable def lmE (i : Nat) (y : AV) (objs : List AO) : Option (List AO × List Prop) := opt (listI ⟨objs, [], []⟩ (.obj i)) fun p => opt (listI ⟨objs, [], []⟩ y) fun q => some (upd objs i (.il (p.2.2 ++ q.2.2)), [p.2.2.length + q.2.2.length ≤ 60000])
noncomputable def lmV (l : Lm) (i : Nat) (xs : List AV) (objs : List AO) : Option (List AO × List Prop) := match xs with
  | [x] => match l with
    | .append => lmA i x objs
    | .extend => lmE i x objs
  | _ => none
theorem fin2g {prog : Program} {K : Params → Frag} {d : Nat} {v : Value} {xs : List AV} {y : AV} {o ob ob' : List AO} {g g' : List Prop} (h : some (ob, g) = some (ob', g')) (hg : ∀ p ∈ g', p) (B : (∀ p ∈ g, p) → BltT prog K d v xs o y ob) : BltT prog K d v xs o y ob' := by cases h; exact B hg
theorem lmV_of {prog : Program} {K : Params → Frag} {d : Nat} {l : Lm} {i : Nat} {xs : List AV} {objs objs' : List AO} {g : List Prop} (h : lmV l i xs objs = some (objs', g)) (hg : ∀ p ∈ g, p) : BltT prog K d (.builtin l.id) (.obj i :: xs) objs (.val .none) objs' := by
  rcases xs with _ | ⟨x, _ | ⟨y, xs⟩⟩
  · exact no_ h
  · cases l with
    | append =>
      have h : lmA i x objs = some (objs', g) := h
      obtain ⟨ao, h1, h⟩ := opt_some h
      obtain ⟨n, h2, h⟩ := opt_some h
      obtain ⟨bo, h3, h⟩ := opt_some h
      rw [nth_eq] at h1
      refine fin2g h hg fun hg => ?_
      rw [upd_eq]
      exact blt_append h1 h3 (sizeO_of h2 (hg _ (.head _)))
    | extend =>
      have h : lmE i x objs = some (objs', g) := h
      obtain ⟨⟨i', ao, ys⟩, h1, h⟩ := opt_some h
      obtain ⟨⟨j, bo, zs⟩, h2, h⟩ := opt_some h
      obtain ⟨e1, e2, e3⟩ := listI_of h1
      obtain ⟨e4, e5, e6⟩ := listI_of h2
      cases e1
      refine fin2g h hg fun hg => ?_
      rw [upd_eq, e4]
      exact blt_extend e2 e5 e3 e6 (hg _ (.head _))
  · exact no_ h
theorem lm_facts (l : Lm) : Slot "list" l.name l.id ∧ typeOf (.builtin l.id) = pure (.type "method_descriptor") := by
  cases l
  · exact ⟨slot_list_append, type_list_append⟩
  · exact ⟨PySem.F.slot_list_extend, by show builtinType _ = _; rw [builtinType_eq_fast]; kernel_rfl⟩
structure Tab2 where
  T : Tab
  rows : List (Addr × List AV)
  tups : List (Addr × List AV)
structure Tab2Ok (K : Params → Frag) (U : Tab2) : Prop where
  T : TabOk K U.T
  rows : ∀ p ∈ U.rows, ∀ P, ∃ vs : List Value, (K P).lookup p.1 = some (⟨.type "list", none, .seq vs.toArray, #[]⟩ : Obj) ∧ RVs [] p.2 vs
  tups : ∀ p ∈ U.tups, ∀ P, ∃ vs : List Value, (K P).lookup p.1 = some (⟨.type "tuple", none, .seq vs.toArray, #[]⟩ : Obj) ∧ RVs [] p.2 vs
section
variable {prog : Program} {K : Params → Frag} {U : Tab2} {n : Nat} {r : Ev} {f : Fx} {σ : S} {o : Orc}
noncomputable def cmpL (n : Nat) (op : CmpOp) (x y : AV) (σ : S) : Option AV := match cmpV op x y with
  | some z => some z
  | none => match op with
    | .In => match y with
      | .obj j => opt (nth σ.objs j) fun bo => match bo with
        | .dict es => opt x.s? fun k => some (.cb (look k es).isSome)
        | bo => opt (intsO bo) fun ys => opt x.i? fun k => some (.bool (ys.any (· == k)))
      | _ => none
    | .Eq => tst (Nat.ble 8 n) (opt (listI σ x) fun p => opt (listI σ y) fun q => some (.bool (decide (p.2.2 = q.2.2))))
    | .NotEq => tst (Nat.ble 8 n) (opt (listI σ x) fun p => opt (listI σ y) fun q => some (.bool (!decide (p.2.2 = q.2.2))))
    | _ => none
theorem cmpL_of (HT : TabOk K U.T) {op : CmpOp} {x y z : AV} (h : cmpL n op x y σ = some z) : CmpAt prog K f n op σ x y z := by
  unfold cmpL at h
  cases e : cmpV op x y with
  | some w => rw [e] at h; cases h; exact .plain e
  | none =>
    rw [e] at h
    dsimp only at h
    split at h
    · split at h
      · replace h := opt_some h
        obtain ⟨bo, h1, h⟩ := h
        rw [nth_eq] at h1
        split at h
        · replace h := opt_some h
          obtain ⟨k, h2, h⟩ := h
          obtain rfl := Option.some.inj h
          exact .inD HT.one h2 rfl h1
        · replace h := opt_some h
          obtain ⟨ys, h2, h⟩ := h
          replace h := opt_some h
          obtain ⟨k, h3, h⟩ := h
          obtain rfl := Option.some.inj h
          exact .inL h3 rfl h1 h2
      · first | exact no_ h | cases h
    · replace h := tst_some h
      obtain ⟨hn, h⟩ := h
      replace h := opt_some h
      obtain ⟨⟨i, ao, xs⟩, h1, h⟩ := h
      replace h := opt_some h
      obtain ⟨⟨j, bo, ys⟩, h2, h⟩ := h
      obtain rfl := Option.some.inj h
      obtain ⟨a1, a2, a3⟩ := listI_of h1
      obtain ⟨b1, b2, b3⟩ := listI_of h2
      exact .eqL a1 b1 a2 b2 a3 b3 (Nat.le_of_ble_eq_true hn)
    · replace h := tst_some h
      obtain ⟨hn, h⟩ := h
      replace h := opt_some h
      obtain ⟨⟨i, ao, xs⟩, h1, h⟩ := h
      replace h := opt_some h
      obtain ⟨⟨j, bo, ys⟩, h2, h⟩ := h
      obtain rfl := Option.some.inj h
      obtain ⟨a1, a2, a3⟩ := listI_of h1
      obtain ⟨b1, b2, b3⟩ := listI_of h2
      exact .neL a1 b1 a2 b2 a3 b3 (Nat.le_of_ble_eq_true hn)
    · first | exact no_ h | cases h
noncomputable def lawCmp (n : Nat) (r : Ev) (f : Fx) (op : CmpOp) (l e : Expr) (σ : S) (o : Orc) : R AV := tst (!behindInMarks op e) (bnd (r.e f l σ o) fun x σ o => bnd (r.e f e σ o) fun y σ o => opt (cmpL n op x y σ) fun z => ret z σ o)
theorem lawCmp_ok (HT : TabOk K U.T) (H : Sound prog K n r) {op : CmpOp} {l e : Expr} {v : AV} {σ' : S} {o' : Orc} {g : List Prop} (h : lawCmp (n + 1) r f op l e σ o = some (v, σ', o', g)) (hg : ∀ p ∈ g, p) :
    ∃ x y σ₁, EvE prog K f (n + 1) l σ x σ₁ ∧ EvE prog K f (n + 1) e σ₁ y σ' ∧ behindInMarks op e = false ∧ CmpAt prog K f (n + 1) op σ' x y v := by
  replace h := tst_some h
  obtain ⟨hb, h⟩ := h
  replace h := bnd_some h
  obtain ⟨x, σ₁, o₁, g1, g2, h1, h, k1⟩ := h
  replace h := bnd_some h
  obtain ⟨y, σ₂, o₂, g3, g4, h2, h, k2⟩ := h
  replace h := opt_some h
  obtain ⟨z, h3, h⟩ := h
  cases h
  have k1 := k1 hg
  have k2 := k2 k1.2
  exact ⟨x, y, σ₁, H.e' h1 k1.1, H.e' h2 k2.1, by simpa using hb, cmpL_of HT h3⟩
noncomputable def arithL (op : Operator) (xs : List Int) (y : AV) (σ : S) (o : Orc) : R AV := match op with
  | .Add => opt (listI σ y) fun q => some (.obj σ.objs.length, { σ with objs := σ.objs ++ [.il (xs ++ q.2.2)] }, o, [xs.length + q.2.2.length ≤ 60000])
  | .Mult => opt y.i? fun k => some (.obj σ.objs.length, { σ with objs := σ.objs ++ [.il (Mine.mulL xs k)] }, o, [k < 60000, 0 ≤ k, xs.length ≤ 64])
  | _ => none
noncomputable def arithV (op : Operator) (x y : AV) (σ : S) (o : Orc) : R AV := opt (opV op x y) fun p => some (p.1, σ, o, p.2)
noncomputable def arithD (op : Operator) (x y : AV) (σ : S) (o : Orc) : R AV := match listI σ x with
  | some p => arithL op p.2.2 y σ o
  | none => arithV op x y σ o
noncomputable def arith (r : Ev) (f : Fx) (op : Operator) (l e : Expr) (σ : S) (o : Orc) : R AV := bnd (r.e f l σ o) fun x σ o => bnd (r.e f e σ o) fun y σ o => arithD op x y σ o
theorem arithL_ok {op : Operator} {l e : Expr} {pos : Pos} {i : Nat} {ao : AO} {xs : List Int} {y v : AV} {σ₁ σ₂ σ' : S} {o' : Orc} {g : List Prop} (E1 : EvE prog K f n l σ (.obj i) σ₁) (E2 : EvE prog K f n e σ₁ y σ₂) (a2 : σ₂.objs[i]? = some ao) (a3 : intsO ao = some xs) (h : arithL op xs y σ₂ o = some (v, σ', o', g)) (hg : ∀ p ∈ g, p) : EvE prog K f n (.BinOp l op e pos) σ v σ' := by
  cases op with
  | Add =>
    obtain ⟨⟨j, bo, ys⟩, h3, h'⟩ := opt_some h
    obtain ⟨rfl, b2, b3⟩ := listI_of h3
    exact finEg h' hg fun hg => .addL E1 E2 a2 b2 a3 b3 (hg _ (.head _))
  | Mult =>
    obtain ⟨k, h3, h'⟩ := opt_some h
    exact finEg h' hg fun hg => .mulL E1 E2 a2 a3 h3 (hg _ (.head _)) (hg _ (.tail _ (.head _))) (hg _ (.tail _ (.tail _ (.head _))))
  | _ => exact no_ h
theorem arithD_ok {op : Operator} {l e : Expr} {pos : Pos} {x y v : AV} {σ₁ σ₂ σ' : S} {o' : Orc} {g : List Prop} (E1 : EvE prog K f n l σ x σ₁) (E2 : EvE prog K f n e σ₁ y σ₂) (h : arithD op x y σ₂ o = some (v, σ', o', g)) (hg : ∀ p ∈ g, p) : EvE prog K f n (.BinOp l op e pos) σ v σ' := by
  unfold arithD at h
  cases q : listI σ₂ x with
  | none =>
    rw [q] at h
    obtain ⟨⟨z, gs⟩, h3, h'⟩ := opt_some h
    exact finEg h' hg fun hg => .bin E1 E2 h3 hg
  | some p =>
    obtain ⟨i, ao, xs⟩ := p
    rw [q] at h
    obtain ⟨rfl, a2, a3⟩ := listI_of q
    exact arithL_ok E1 E2 a2 a3 h hg
theorem arith_ok (H : Sound prog K n r) {op : Operator} {l e : Expr} {pos : Pos} {v : AV} {σ' : S} {o' : Orc} {g : List Prop} (h : arith r f op l e σ o = some (v, σ', o', g)) (hg : ∀ p ∈ g, p) : EvE prog K f (n + 1) (.BinOp l op e pos) σ v σ' := by
  obtain ⟨x, σ₁, o₁, g1, g2, h1, h, k1⟩ := bnd_some h
  obtain ⟨y, σ₂, o₂, g3, g4, h2, h, k2⟩ := bnd_some h
  have k1 := k1 hg
  have k2 := k2 k1.2
  exact arithD_ok (H.e' h1 k1.1) (H.e' h2 k2.1) h k2.2
noncomputable def lawPart (r : Ev) (f : Fx) (e : Option Expr) (σ : S) (o : Orc) : R (Option Int) := match e with
  | none => ret none σ o
  | some e => bnd (r.e f e σ o) fun x σ o => opt x.i? fun i => ret (some i) σ o
theorem lawPart_ok (H : Sound prog K n r) {e : Option Expr} {v : Option Int} {σ' : S} {o' : Orc} {g : List Prop} (h : lawPart r f e σ o = some (v, σ', o', g)) (hg : ∀ p ∈ g, p) : EvP prog K f (n + 1) e σ v σ' := by
  cases e with
  | none => cases h; exact .none
  | some e =>
    replace h := bnd_some h
    obtain ⟨x, σ₁, o₁, g1, g2, h1, h, k1⟩ := h
    replace h := opt_some h
    obtain ⟨i, h2, h⟩ := h
    cases h
    exact .some (H.e' h1 (k1 hg).1) h2
noncomputable def lawSlice (r : Ev) (f : Fx) (v : Expr) (lo hi : Option Expr) (σ : S) (o : Orc) : R AV := bnd (r.e f v σ o) fun x σ o => bnd (lawPart r f lo σ o) fun kl σ o => bnd (lawPart r f hi σ o) fun kh σ o => opt (listI σ x) fun p =>
  some (.obj σ.objs.length, { σ with objs := σ.objs ++ [.il (sliceI p.2.2 kl kh)] }, o, (p.2.2.length ≤ 60000) :: sliceG p.2.2 kl kh)
theorem lawSlice_ok (H : Sound prog K n r) {v : Expr} {lo hi : Option Expr} {p pos : Pos} {z : AV} {σ' : S} {o' : Orc} {g : List Prop} (h : lawSlice r f v lo hi σ o = some (z, σ', o', g)) (hg : ∀ p ∈ g, p) : EvE prog K f (n + 1) (.Subscript v (.Slice lo hi none p) pos) σ z σ' := by
  replace h := bnd_some h
  obtain ⟨x, σ₁, o₁, g1, g2, h1, h, k1⟩ := h
  replace h := bnd_some h
  obtain ⟨kl, σ₂, o₂, g3, g4, h2, h, k2⟩ := h
  replace h := bnd_some h
  obtain ⟨kh, σ₃, o₃, g5, g6, h3, h, k3⟩ := h
  replace h := opt_some h
  obtain ⟨⟨i, ao, xs⟩, h4, h'⟩ := h
  obtain ⟨rfl, a2, a3⟩ := listI_of h4
  have k1 := k1 hg
  have k2 := k2 k1.2
  have k3 := k3 k2.2
  exact finEg h' k3.2 fun hgs => .slice (H.e' h1 k1.1) (lawPart_ok H h2 k2.1) (lawPart_ok H h3 k3.1) a2 a3 (hgs _ (.head _)) fun p hp => hgs p (.tail _ hp)
noncomputable def dictAt (σ : S) (x : AV) : Option (Nat × List (Str × AV)) := match x with
  | .obj i => match nth σ.objs i with
    | some (.dict es) => some (i, es)
    | _ => none
  | _ => none
theorem dictAt_of {x : AV} {i : Nat} {es : List (Str × AV)} (h : dictAt σ x = some (i, es)) : x = .obj i ∧ σ.objs[i]? = some (.dict es) := by
  unfold dictAt at h
  split at h
  · split at h
    · rename_i e
      cases h
      rw [nth_eq] at e
      exact ⟨rfl, e⟩
    · first | exact no_ h | cases h
  · first | exact no_ h | cases h
noncomputable def lawItem (T : Tab) (r : Ev) (f : Fx) (v s : Expr) (σ : S) (o : Orc) : R AV := tst (notSlice s) (bnd (r.e f v σ o) fun x σ o => bnd (r.e f s σ o) fun y σ o => match dictAt σ x with
  | some (_, es) => opt y.s? fun k => opt (look k es) fun z => ret z σ o
  | none => stItem T x y σ o)
theorem lawItem_ok (HT : TabOk K U.T) (H : Sound prog K n r) {v s : Expr} {pos : Pos} {z : AV} {σ' : S} {o' : Orc} {g : List Prop} (h : lawItem U.T r f v s σ o = some (z, σ', o', g)) (hg : ∀ p ∈ g, p) : EvE prog K f (n + 1) (.Subscript v s pos) σ z σ' := by
  replace h := tst_some h
  obtain ⟨hn, h⟩ := h
  replace h := bnd_some h
  obtain ⟨x, σ₁, o₁, g1, g2, h1, h, k1⟩ := h
  replace h := bnd_some h
  obtain ⟨y, σ₂, o₂, g3, g4, h2, h, k2⟩ := h
  have k1 := k1 hg
  have k2 := k2 k1.2
  cases q : dictAt σ₂ x with
  | none => rw [q] at h; exact stItem_ok HT h k2.2 (H.e' h1 k1.1) (H.e' h2 k2.1) hn
  | some p =>
    obtain ⟨i, es⟩ := p
    rw [q] at h
    obtain ⟨rfl, a2⟩ := dictAt_of q
    replace h := opt_some h
    obtain ⟨k, h3, h⟩ := h
    replace h := opt_some h
    obtain ⟨z', h4, h⟩ := h
    exact finE h (.subD (H.e' h1 k1.1) (H.e' h2 k2.1) hn h3 a2 h4)
noncomputable def lawCall (T : Tab) (r : Ev) (f : Fx) (x : Str) (p : Pos) (es : List Expr) (σ : S) (o : Orc) : R AV := match stName T f x σ o with
  | some (.blt b, σ, o, g) => grd g (bnd (stArgs r f es σ o) fun xs σ o => opt (bltV b xs σ.objs) fun q => some (q.1, { σ with objs := q.2.1 }, o, q.2.2))
  | _ => stCall r f (.Name x p) es σ o
theorem lawCall_ok (HT : TabOk K U.T) (H : Sound prog K n r) {x : Str} {p pos : Pos} {es : List Expr} {z : AV} {σ' : S} {o' : Orc} {g : List Prop} (h : lawCall U.T r f x p es σ o = some (z, σ', o', g)) (hg : ∀ p ∈ g, p) : EvE prog K f (n + 1) (.Call (.Name x p) es [] pos) σ z σ' := by
  unfold lawCall at h
  split at h
  · rename_i b σ₁ o₁ g0 e
    replace h := grd_some h
    obtain ⟨g2, h, k0⟩ := h
    have k0 := k0 hg
    replace h := bnd_some h
    obtain ⟨xs, σ₂, o₂, g3, g4, h2, h, k2⟩ := h
    replace h := opt_some h
    obtain ⟨⟨q1, q2, q3⟩, h3, h⟩ := h
    have k2 := k2 k0.2
    obtain ⟨A1, A2⟩ := stArgs_ok H h2 k2.1
    exact finEg h k2.2 fun hgs => .callV (stName_ok HT e) A2 (call_eq rfl) A1 (bltV_of h3 hgs)
  · exact stCall_ok H h hg
noncomputable def lawMeth (T : Tab) (r : Ev) (f : Fx) (y name : Str) (apos : Pos) (es : List Expr) (pos : Pos) (σ : S) (o : Orc) : R AV := match stName T f y σ o with
  | some (.obj i, σ₁, o₁, g) => match opt (nth σ₁.objs i) sizeO with
    | some _ => opt (lmOf name) fun l => tst (Nat.blt es.length 29 && Nat.beq apos.endLine pos.line) (grd g (bnd (stArgs r f es σ₁ o₁) fun xs σ o => opt (lmV l i xs σ.objs) fun q => some (.val .none, { σ with objs := q.1 }, o, q.2)))
    | none => stMeth T r f y name apos es pos σ o
  | _ => none
theorem lawMeth_ok (HT : TabOk K U.T) (H : Sound prog K n r) {y name : Str} {np apos pos : Pos} {es : List Expr} {z : AV} {σ' : S} {o' : Orc} {g : List Prop} (h : lawMeth U.T r f y name apos es pos σ o = some (z, σ', o', g)) (hg : ∀ p ∈ g, p) : EvE prog K f (n + 1) (.Call (.Attribute (.Name y np) name apos) es [] pos) σ z σ' := by
  unfold lawMeth at h
  split at h
  · rename_i i σ₁ o₁ g0 e
    split at h
    · rename_i sz e2
      replace e2 := opt_some e2
      obtain ⟨ao, e3, e4⟩ := e2
      rw [nth_eq] at e3
      replace h := opt_some h
      obtain ⟨l, hl, h⟩ := h
      replace h := tst_some h
      obtain ⟨hp, h⟩ := h
      replace h := grd_some h
      obtain ⟨g2, h, k0⟩ := h
      have k0 := k0 hg
      replace h := bnd_some h
      obtain ⟨xs, σ₂, o₂, g3, g4, h2, h, k2⟩ := h
      replace h := opt_some h
      obtain ⟨⟨q1, q2⟩, h3, h⟩ := h
      have k2 := k2 k0.2
      obtain ⟨A1, A2⟩ := stArgs_ok H h2 k2.1
      obtain ⟨hp1, hp2⟩ := Bool.and_eq_true_iff.mp hp
      have hlen : es.length < 29 := Nat.lt_of_lt_of_le (Nat.lt_succ_self _) (Nat.le_of_ble_eq_true hp1)
      obtain ⟨L1, L2⟩ := lm_facts l
      rw [lmOf_of hl]
      refine finEg h k2.2 fun hgs => .callLm (zs := []) (stName_ok HT e) (fun _ => rfl) A2 hlen (by rw [Nat.eq_of_beq_eq_true hp2]; exact beq_self_eq_true _) L1 L2 e3 (fun P as o r => ?_) A1 (lmV_of h3 hgs)
      cases ao <;> first | exact no_ e4 | skip
      · obtain ⟨vs, k, e, _⟩ := r; exact ⟨vs, k, e⟩
      · obtain ⟨vs, k, e, _⟩ := r; exact ⟨vs, k, e⟩
    · exact stMeth_ok HT H h hg
  · first | exact no_ h | cases h
end
section
variable {prog : Program} {K : Params → Frag} {U : Tab2} {n : Nat} {r : Ev} {f : Fx} {σ : S} {o : Orc}
noncomputable def allSome : List (Option Expr) → Bool
  | [] => true
  | some _ :: r => allSome r
  | none :: _ => false
theorem allSome_of : ∀ {l : List (Option Expr)}, allSome l = true → l.all (·.isSome) = true
  | [], _ => rfl
  | some _ :: r, h => by show (true && r.all _) = true; rw [allSome_of (l := r) h]; rfl
  | none :: _, h => nomatch h
noncomputable def isNil {α : Type} : List α → Bool
  | [] => true
  | _ => false
noncomputable def askE (prog : Program) (K : Params → Frag) (n : Nat) (f : Fx) (e : Expr) (σ : S) (o : Orc) : R AV := match o with
  | q :: o' => match q with
    | .e x σ' => some (x, σ', o', [EvE prog K f n e σ x σ'])
    | _ => none
  | [] => none
noncomputable def lawList (r : Ev) (f : Fx) (mk : List AV → AO) (es : List Expr) (σ : S) (o : Orc) : R AV := bnd (stArgs r f es σ o) fun xs σ o => tst (Nat.ble xs.length 1000) (ret (.obj σ.objs.length) { σ with objs := σ.objs ++ [mk xs] } o)
noncomputable def lawDict (ks : List (Option Expr)) (vs : List Expr) (σ : S) (o : Orc) : R AV := opt (constPairs ks vs) fun l => tst (!hasDup l) (tst (allSome ks) (tst (Nat.beq ks.length vs.length) (tst (!isNil ks) (tst (Nat.ble ks.length 15) (ret (.obj σ.objs.length) { σ with objs := σ.objs ++ [.dict (l.map fun p => (p.1, .cint p.2))] } o)))))
noncomputable def lawDictD (ks : List (Option Expr)) (vs : List Expr) (σ : S) (o : Orc) : R AV := match ks with
  | [] => match vs with
    | [] => ret (.obj σ.objs.length) { σ with objs := σ.objs ++ [.dict []] } o
    | _ :: _ => none
  | k :: ks => lawDict (k :: ks) vs σ o
noncomputable def lawCmpD (n : Nat) (r : Ev) (f : Fx) (l : Expr) (ops : List CmpOp) (es : List Expr) (σ : S) (o : Orc) : R AV := match ops, es with
  | [op], [e] => lawCmp n r f op l e σ o
  | _, _ => none
noncomputable def lawSubD (T : Tab) (r : Ev) (f : Fx) (v s : Expr) (σ : S) (o : Orc) : R AV := match s with
  | .Slice lo hi st _ => match st with
    | none => lawSlice r f v lo hi σ o
    | some _ => none
  | s => lawItem T r f v s σ o
noncomputable def lawMethD (T : Tab) (r : Ev) (f : Fx) (v : Expr) (name : Str) (apos : Pos) (es : List Expr) (pos : Pos) (σ : S) (o : Orc) : R AV := match v with
  | .Name y _ => lawMeth T r f y name apos es pos σ o
  | _ => none
/-- a name that holds a closure -/
noncomputable def isClo (x : Str) (σ : S) : Bool := match look x σ.cells with
  | some i => match nth σ.objs i with
    | some (.cell (some (.obj k))) => match nth σ.objs k with
      | some (.fn _ _ _) => true
      | _ => false
    | _ => false
  | none => false
noncomputable def lawCallN (prog : Program) (K : Params → Frag) (n : Nat) (T : Tab) (r : Ev) (f : Fx) (x : Str) (p : Pos) (es : List Expr) (pos : Pos) (σ : S) (o : Orc) : R AV := match isClo x σ with
  | true => askE prog K n f (.Call (.Name x p) es [] pos) σ o
  | false => lawCall T r f x p es σ o
noncomputable def lawCallD (prog : Program) (K : Params → Frag) (n : Nat) (T : Tab) (r : Ev) (f : Fx) (fe : Expr) (es : List Expr) (pos : Pos) (σ : S) (o : Orc) : R AV := match fe with
  | .Name x p => lawCallN prog K n T r f x p es pos σ o
  | .Attribute v name apos => lawMethD T r f v name apos es pos σ o
  | fe => stCall r f fe es σ o
noncomputable def lawCallK (prog : Program) (K : Params → Frag) (n : Nat) (T : Tab) (r : Ev) (f : Fx) (fe : Expr) (es : List Expr) (ks : List Keyword) (pos : Pos) (σ : S) (o : Orc) : R AV := match ks with
  | [] => lawCallD prog K n T r f fe es pos σ o
  | k :: ks => match es with
    | [] => askE prog K n f (.Call fe [] (k :: ks) pos) σ o
    | _ :: _ => none
noncomputable def lawE (prog : Program) (K : Params → Frag) (n : Nat) (U : Tab2) (r : Ev) (f : Fx) (e : Expr) (σ : S) (o : Orc) : R AV := match e with
  | .ListComp a b c d => askE prog K n f (.ListComp a b c d) σ o
  | .BoolOp a b c => askE prog K n f (.BoolOp a b c) σ o
  | .Call fe es ks pos => lawCallK prog K n U.T r f fe es ks pos σ o
  | .List es _ => lawList r f .list es σ o
  | .Tuple es _ _ => lawList r f .tup es σ o
  | .Dict ks vs _ => lawDictD ks vs σ o
  | .Compare l ops es _ => lawCmpD n r f l ops es σ o
  | .BinOp l op e _ => arith r f op l e σ o
  | .Subscript v s _ => lawSubD U.T r f v s σ o
  | e => stE U.T r f e σ o
theorem askE_ok {e : Expr} {z : AV} {σ' : S} {o' : Orc} {g : List Prop} (h : askE prog K n f e σ o = some (z, σ', o', g)) (hg : ∀ p ∈ g, p) : EvE prog K f n e σ z σ' := by
  cases o with
  | nil => exact no_ h
  | cons q o =>
    cases q with
    | e x σ₂ => cases h; exact hg _ (.head _)
    | _ => exact no_ h
theorem lawList_ok (H : Sound prog K n r) {mk : List AV → AO} {es : List Expr} {z : AV} {σ' : S} {o' : Orc} {g : List Prop} (h : lawList r f mk es σ o = some (z, σ', o', g)) (hg : ∀ p ∈ g, p) : ∃ xs σ₁, EvA prog K f (n + 1) es σ xs σ₁ ∧ xs.length ≤ 1000 ∧ z = .obj σ₁.objs.length ∧ σ' = { σ₁ with objs := σ₁.objs ++ [mk xs] } := by
  obtain ⟨xs, σ₁, o₁, g1, g2, h1, h, k1⟩ := bnd_some h
  obtain ⟨hz, h⟩ := tst_some h
  cases h
  exact ⟨xs, σ₁, (stArgs_ok H h1 (k1 hg).1).1, Nat.le_of_ble_eq_true hz, rfl, rfl⟩
theorem lawDict_ok {ks : List (Option Expr)} {vs : List Expr} {pos : Pos} {z : AV} {σ' : S} {o' : Orc} {g : List Prop} (h : lawDict ks vs σ o = some (z, σ', o', g)) : EvE prog K f n (.Dict ks vs pos) σ z σ' := by
  obtain ⟨l, h1, h⟩ := opt_some h
  obtain ⟨h2, h⟩ := tst_some h
  obtain ⟨h3, h⟩ := tst_some h
  obtain ⟨h4, h⟩ := tst_some h
  obtain ⟨h5, h⟩ := tst_some h
  obtain ⟨h6, h⟩ := tst_some h
  refine finE h ?_
  exact .dictC h1 (by simpa using h2) (allSome_of h3) (Nat.eq_of_beq_eq_true h4) (fun e => by rw [e] at h5; cases h5) (Nat.le_of_ble_eq_true h6)
theorem lawDictD_ok {ks : List (Option Expr)} {vs : List Expr} {pos : Pos} {z : AV} {σ' : S} {o' : Orc} {g : List Prop} (h : lawDictD ks vs σ o = some (z, σ', o', g)) : EvE prog K f n (.Dict ks vs pos) σ z σ' := by
  cases ks with
  | nil =>
    cases vs with
    | nil => cases h; exact .dict0
    | cons => exact no_ h
  | cons => exact lawDict_ok h
theorem lawCmpD_ok (HT : TabOk K U.T) (H : Sound prog K n r) {l : Expr} {ops : List CmpOp} {es : List Expr} {pos : Pos} {z : AV} {σ' : S} {o' : Orc} {g : List Prop} (h : lawCmpD (n + 1) r f l ops es σ o = some (z, σ', o', g)) (hg : ∀ p ∈ g, p) : EvE prog K f (n + 1) (.Compare l ops es pos) σ z σ' := by
  rcases ops with _ | ⟨op, _ | ⟨op', ops⟩⟩
  · exact no_ h
  · rcases es with _ | ⟨e, _ | ⟨e', es⟩⟩
    · exact no_ h
    · obtain ⟨x, y, σ₁, h1, h2, h3, h4⟩ := lawCmp_ok HT H h hg
      exact .cmpAt h1 h2 h3 h4
    · exact no_ h
  · exact no_ h
theorem lawSubD_ok (HT : TabOk K U.T) (H : Sound prog K n r) {v s : Expr} {pos : Pos} {z : AV} {σ' : S} {o' : Orc} {g : List Prop} (h : lawSubD U.T r f v s σ o = some (z, σ', o', g)) (hg : ∀ p ∈ g, p) : EvE prog K f (n + 1) (.Subscript v s pos) σ z σ' := by
  cases s with
  | Slice lo hi st p =>
    cases st with
    | none => exact lawSlice_ok H h hg
    | some => exact no_ h
  | _ => exact lawItem_ok (o := o) HT H h hg
theorem lawMethD_ok (HT : TabOk K U.T) (H : Sound prog K n r) {v : Expr} {name : Str} {apos pos : Pos} {es : List Expr} {z : AV} {σ' : S} {o' : Orc} {g : List Prop} (h : lawMethD U.T r f v name apos es pos σ o = some (z, σ', o', g)) (hg : ∀ p ∈ g, p) : EvE prog K f (n + 1) (.Call (.Attribute v name apos) es [] pos) σ z σ' := by
  cases v with
  | Name => exact lawMeth_ok HT H h hg
  | _ => exact no_ h
theorem lawCallN_ok (HT : TabOk K U.T) (H : Sound prog K n r) {x : Str} {p : Pos} {es : List Expr} {pos : Pos} {z : AV} {σ' : S} {o' : Orc} {g : List Prop} (h : lawCallN prog K (n + 1) U.T r f x p es pos σ o = some (z, σ', o', g)) (hg : ∀ p ∈ g, p) : EvE prog K f (n + 1) (.Call (.Name x p) es [] pos) σ z σ' := by
  unfold lawCallN at h
  cases e : isClo x σ with
  | true => rw [e] at h; exact askE_ok h hg
  | false => rw [e] at h; exact lawCall_ok HT H h hg
theorem lawCallD_ok (HT : TabOk K U.T) (H : Sound prog K n r) {fe : Expr} {es : List Expr} {pos : Pos} {z : AV} {σ' : S} {o' : Orc} {g : List Prop} (h : lawCallD prog K (n + 1) U.T r f fe es pos σ o = some (z, σ', o', g)) (hg : ∀ p ∈ g, p) : EvE prog K f (n + 1) (.Call fe es [] pos) σ z σ' := by
  cases fe with
  | Name => exact lawCallN_ok HT H h hg
  | Attribute => exact lawMethD_ok HT H h hg
  | _ => exact stCall_ok (o := o) H h hg
theorem lawCallK_ok (HT : TabOk K U.T) (H : Sound prog K n r) {fe : Expr} {es : List Expr} {ks : List Keyword} {pos : Pos} {z : AV} {σ' : S} {o' : Orc} {g : List Prop} (h : lawCallK prog K (n + 1) U.T r f fe es ks pos σ o = some (z, σ', o', g)) (hg : ∀ p ∈ g, p) : EvE prog K f (n + 1) (.Call fe es ks pos) σ z σ' := by
  cases ks with
  | nil => exact lawCallD_ok HT H h hg
  | cons =>
    cases es with
    | nil => exact askE_ok h hg
    | cons => exact no_ h
theorem lawE_ok (HT : TabOk K U.T) (H : Sound prog K n r) {e : Expr} {z : AV} {σ' : S} {o' : Orc} {g : List Prop} (h : lawE prog K (n + 1) U r f e σ o = some (z, σ', o', g)) (hg : ∀ p ∈ g, p) : EvE prog K f (n + 1) e σ z σ' := by
  cases e with
  | ListComp => exact askE_ok h hg
  | BoolOp => exact askE_ok h hg
  | Call => exact lawCallK_ok HT H h hg
  | List =>
    obtain ⟨xs, σ₁, h1, h2, rfl, rfl⟩ := lawList_ok H h hg
    exact .list h1 h2
  | Tuple =>
    obtain ⟨xs, σ₁, h1, h2, rfl, rfl⟩ := lawList_ok H h hg
    exact .tuple h1 h2
  | Dict => exact lawDictD_ok h
  | Compare => exact lawCmpD_ok HT H h hg
  | BinOp => exact arith_ok H h hg
  | Subscript => exact lawSubD_ok HT H h hg
  | _ => exact stE_ok (o := o) HT H h hg
noncomputable def lawCmpT (n : Nat) (r : Ev) (f : Fx) (l : Expr) (ops : List CmpOp) (es : List Expr) (p : Pos) (σ : S) (o : Orc) : R Bool := match ops, es with
  | [op], [e] => bnd (lawCmp n r f op l e σ o) fun x σ o => stTruth x σ o
  | ops, es => stTst r f (.Compare l ops es p) σ o
noncomputable def lawT (n : Nat) (r : Ev) (f : Fx) (e : Expr) (σ : S) (o : Orc) : R Bool := match e with
  | .Compare l ops es p => lawCmpT n r f l ops es p σ o
  | e => stTst r f e σ o
theorem lawCmpT_ok (HT : TabOk K U.T) (H : Sound prog K n r) {l : Expr} {ops : List CmpOp} {es : List Expr} {p : Pos} {z : Bool} {σ' : S} {o' : Orc} {g : List Prop} (h : lawCmpT (n + 1) r f l ops es p σ o = some (z, σ', o', g)) (hg : ∀ p ∈ g, p) : EvT prog K f (n + 1) (.Compare l ops es p) σ z σ' := by
  rcases ops with _ | ⟨op, _ | ⟨op', ops⟩⟩
  · exact stTst_ok H h hg
  · rcases es with _ | ⟨e, _ | ⟨e', es⟩⟩
    · exact stTst_ok H h hg
    · obtain ⟨y, σ₁, o₁, g1, g2, h1, h, k1⟩ := bnd_some h
      obtain ⟨x, y', σ₂, e1, e2, e3, e4⟩ := lawCmp_ok HT H h1 (k1 hg).1
      obtain ⟨⟨k, ht⟩, rfl⟩ := stTruth_ok h (k1 hg).2
      exact .cmpAt e1 e2 e3 e4 ht
    · exact stTst_ok H h hg
  · exact stTst_ok H h hg
theorem lawT_ok (HT : TabOk K U.T) (H : Sound prog K n r) {e : Expr} {z : Bool} {σ' : S} {o' : Orc} {g : List Prop} (h : lawT (n + 1) r f e σ o = some (z, σ', o', g)) (hg : ∀ p ∈ g, p) : EvT prog K f (n + 1) e σ z σ' := by
  cases e with
  | Compare => exact lawCmpT_ok HT H h hg
  | _ => exact stTst_ok (o := o) H h hg
noncomputable def tgName (f : Fx) (x : Str) (av : AV) (σ : S) : Option S := tst f.fn (opt (look x f.cs.names) fun k => match k with
  | .local => opt (setLoc x av σ.locs) fun l => some { σ with locs := l }
  | .cell => opt (look x σ.cells) fun i => opt (nth σ.objs i) fun ao => match ao with
    | .cell _ => some { σ with objs := upd σ.objs i (.cell (some av)) }
    | _ => none
  | _ => none)
theorem tgName_ok {x : Str} {pos : Pos} {av : AV} {σ' : S} (h : tgName f x av σ = some σ') : EvAs prog K f n (.Name x pos) av σ σ' := by
  replace h := tst_some h
  obtain ⟨hf, h⟩ := h
  replace h := opt_some h
  obtain ⟨k, hk, h⟩ := h
  cases k <;> first | exact no_ h | (cases h; done) | skip
  · replace h := opt_some h
    obtain ⟨l, hl, h⟩ := h
    cases h
    exact .local hf hl hk
  · replace h := opt_some h
    obtain ⟨i, hi, h⟩ := h
    replace h := opt_some h
    obtain ⟨ao, ho, h⟩ := h
    rw [nth_eq] at ho
    cases ao <;> first | exact no_ h | (cases h; done) | skip
    cases h
    rw [upd_eq]
    exact .cell hi ho hk
noncomputable def tgOne (f : Fx) (t : Expr) (av : AV) (σ : S) : Option S := match t with
  | .Name x _ => tgName f x av σ
  | _ => none
theorem tgOne_ok {t : Expr} {av : AV} {σ' : S} (h : tgOne f t av σ = some σ') : EvAs prog K f n t av σ σ' ∧ notStar t = true := by
  cases t with
  | Name => exact ⟨tgName_ok h, rfl⟩
  | _ => exact no_ h
noncomputable def tgNames (f : Fx) : List Expr → List AV → S → Option S
  | [], avs, σ => match avs with
    | [] => some σ
    | _ :: _ => none
  | t :: ts, avs, σ => match avs with
    | [] => none
    | av :: avs => opt (tgOne f t av σ) fun σ => tgNames f ts avs σ
theorem tgNames_ok : ∀ {ts : List Expr} {avs : List AV} {σ σ' : S}, tgNames f ts avs σ = some σ' → EvAll prog K f n ts avs σ σ'
  | [], avs, σ, σ', h => by
    cases avs with
    | nil => cases h; exact .nil
    | cons => exact no_ h
  | t :: ts, avs, σ, σ', h => by
    cases avs with
    | nil => exact no_ h
    | cons av avs =>
      have h : (opt (tgOne f t av σ) fun σ => tgNames f ts avs σ) = some σ' := h
      obtain ⟨σ₁, h1, h⟩ := opt_some h
      exact .cons (tgOne_ok (prog := prog) (K := K) (n := n) h1).2 (tgOne_ok h1).1 (tgNames_ok h)
noncomputable def tupAt (U : Tab2) (σ : S) (x : AV) : Option (List AV) := match x with
  | .obj i => match nth σ.objs i with
    | some (.tup xs) => some xs
    | _ => none
  | .val (.ref a) => atA a U.tups
  | _ => none
theorem tupAt_of (HU : Tab2Ok K U) {x : AV} {xs : List AV} (h : tupAt U σ x = some xs) : IsT K σ x xs := by
  unfold tupAt at h
  split at h
  · split at h
    · rename_i e
      cases h
      rw [nth_eq] at e
      exact .told e
    · first | exact no_ h | cases h
  · exact .kept (HU.tups _ (atA_mem h))
  · first | exact no_ h | cases h
noncomputable def tgt (U : Tab2) (f : Fx) (t : Expr) (x : AV) (σ : S) : Option S := match t with
  | .Name y _ => tgName f y x σ
  | .Tuple ts _ _ => opt (tupAt U σ x) fun xs => tgNames f ts xs σ
  | _ => none
theorem tgt_ok (HU : Tab2Ok K U) {t : Expr} {x : AV} {σ' : S} (h : tgt U f t x σ = some σ') : EvAs prog K f n t x σ σ' := by
  unfold tgt at h
  split at h
  · exact tgName_ok h
  · replace h := opt_some h
    obtain ⟨xs, h1, h⟩ := h
    exact .tuple (tupAt_of HU h1) (tgNames_ok h)
  · first | exact no_ h | cases h
noncomputable def turns (U : Tab2) (r : Ev) (f : Fx) (t : Expr) (body : List Stmt) : List AV → S → Orc → R Out
  | [], σ, o => ret .next σ o
  | x :: xs, σ, o => opt (tgt U f t x σ) fun σ => bnd (r.b f body σ o) fun out σ o => match out with
    | .next => turns U r f t body xs σ o
    | .cont => turns U r f t body xs σ o
    | .brk => ret .next σ o
    | .ret v => ret (.ret v) σ o
theorem turns_ok (HU : Tab2Ok K U) (H : Sound prog K n r) {t : Expr} {body : List Stmt} {Kp : S → Prop} (hK : ∀ τ, Kp τ) : ∀ {xs : List AV} {σ : S} {o : Orc} {out : Out} {σ' : S} {o' : Orc} {g : List Prop}, turns U r f t body xs σ o = some (out, σ', o', g) → (∀ p ∈ g, p) → Turns prog K f (n + 1) t body Kp xs σ out σ'
  | [], σ, o, out, σ', o', g, h, hg => by cases h; exact .nil (hK _)
  | x :: xs, σ, o, out, σ', o', g, h, hg => by
    replace h := opt_some h
    obtain ⟨σ₁, h1, h⟩ := h
    replace h := bnd_some h
    obtain ⟨z, σ₂, o₂, g1, g2, h2, h, k1⟩ := h
    have k1 := k1 hg
    have B := H.b' h2 k1.1
    have A : EvAs prog K f (n + 1) t x σ σ₁ := tgt_ok HU h1
    cases z with
    | next => exact .next (hK _) A B (.inl rfl) (turns_ok HU H hK h k1.2)
    | cont => exact .next (hK _) A B (.inr rfl) (turns_ok HU H hK h k1.2)
    | brk => cases h; exact .brk (hK _) A B
    | ret v => cases h; exact .ret (hK _) A B
noncomputable def plainIter : Expr → Bool
  | .Name .. => true
  | .Call .. => true
  | .Subscript .. => true
  | _ => false
theorem plainIter_of {e : Expr} (h : plainIter e = true) (env : Env) (x : Value) : foldedSetIterable e env x = pure x := by cases e <;> first | exact nb_ h | rfl
noncomputable def keptRows (U : Tab2) (x : AV) : Option (List AV) := match x with
  | .val (.ref a) => atA a U.rows
  | _ => none
theorem keptRows_of (HU : Tab2Ok K U) {x : AV} {xs : List AV} (h : keptRows U x = some xs) : ∀ τ : S, SrcL K τ x xs := by
  unfold keptRows at h
  split at h
  · exact fun τ => .kept (HU.rows _ (atA_mem h))
  · first | exact no_ h | cases h
noncomputable def lawFor (U : Tab2) (r : Ev) (f : Fx) (t iter : Expr) (body : List Stmt) (σ : S) (o : Orc) : R Out := tst (plainIter iter) (tst (plainTarget t) (bnd (r.e f iter σ o) fun x σ o => opt (keptRows U x) fun xs => turns U r f t body xs σ o))
theorem lawFor_ok (HU : Tab2Ok K U) (H : Sound prog K n r) {t iter : Expr} {body : List Stmt} {pos : Pos} {z : Out} {σ' : S} {o' : Orc} {g : List Prop} (h : lawFor U r f t iter body σ o = some (z, σ', o', g)) (hg : ∀ p ∈ g, p) : EvS prog K f (n + 1) (.For t iter body [] pos) σ z σ' := by
  replace h := tst_some h
  obtain ⟨hi, h⟩ := h
  replace h := tst_some h
  obtain ⟨ht, h⟩ := h
  replace h := bnd_some h
  obtain ⟨x, σ₁, o₁, g1, g2, h1, h, k1⟩ := h
  replace h := opt_some h
  obtain ⟨xs, h2, h⟩ := h
  have k1 := k1 hg
  have S := keptRows_of HU h2
  exact .forL (H.e' h1 k1.1) (S _) ht (turns_ok HU H S h k1.2) (plainIter_of hi)
theorem swaps_cell {a : Expr} {b : List Comprehension} {c : Scope} {d : Pos} {x : Str} {pos : Pos} {l : Nat} {env : Env} (h : env.kindOf x = some .cell) : swapsWith (.ListComp a b c d) (some (.Name x pos)) l env = pure false := by
  unfold swapsWith
  dsimp only
  rw [h]
  show (pure (_ && false && _ && _) : Sem Bool) = pure false
  rw [Bool.and_false, Bool.false_and, Bool.false_and]
noncomputable def compSt (f : Fx) (x : Str) (av : AV) (σ : S) (o : Orc) : R Out := opt (look x f.cs.names) fun k => match k with
  | .cell => opt (look x σ.cells) fun i => cellSt av i σ o
  | _ => none
noncomputable def subSt (av y w : AV) (σ : S) (o : Orc) : R Out := match dictAt σ w with
  | some p => opt y.s? fun k => tst (Nat.ble p.2.length 1000) (ret .next { σ with objs := upd σ.objs p.1 (.dict (setA k av p.2)) } o)
  | none => ilSt av y w σ o
noncomputable def lawSubSt (r : Ev) (f : Fx) (a s v : Expr) (σ : S) (o : Orc) : R Out := tst (notComp v) (bnd (r.e f v σ o) fun av σ o => bnd (r.e f a σ o) fun w σ o => bnd (r.e f s σ o) fun y σ o => subSt av y w σ o)
noncomputable def lawNameSt (prog : Program) (K : Params → Frag) (n : Nat) (T : Tab) (r : Ev) (f : Fx) (x : Str) (xp : Pos) (v : Expr) (p : Pos) (σ : S) (o : Orc) : R Out := match v with
  | .ListComp a b c d => bnd (r.e f (.ListComp a b c d) σ o) fun av σ o => compSt f x av σ o
  | v => stS prog K n T r f (.Assign [.Name x xp] v p) σ o
noncomputable def lawAsg (prog : Program) (K : Params → Frag) (n : Nat) (T : Tab) (r : Ev) (f : Fx) (t v : Expr) (p : Pos) (σ : S) (o : Orc) : R Out := match t with
  | .Tuple a b c => askS prog K n f (.Assign [.Tuple a b c] v p) σ o
  | .Name x xp => lawNameSt prog K n T r f x xp v p σ o
  | .Subscript a s _ => lawSubSt r f a s v σ o
  | t => stS prog K n T r f (.Assign [t] v p) σ o
noncomputable def lawAsgs (prog : Program) (K : Params → Frag) (n : Nat) (T : Tab) (r : Ev) (f : Fx) (ts : List Expr) (v : Expr) (p : Pos) (σ : S) (o : Orc) : R Out := match ts with
  | [t] => lawAsg prog K n T r f t v p σ o
  | _ => none
noncomputable def lawForD (prog : Program) (K : Params → Frag) (n : Nat) (U : Tab2) (r : Ev) (f : Fx) (t iter : Expr) (body orelse : List Stmt) (p : Pos) (σ : S) (o : Orc) : R Out := match orelse with
  | [] => match o with
    | q :: o' => match q with
      | .s z σ' => some (z, σ', o', [EvS prog K f n (.For t iter body [] p) σ z σ'])
      | q => lawFor U r f t iter body σ (q :: o')
    | [] => lawFor U r f t iter body σ []
  | _ :: _ => none
noncomputable def lawAug (prog : Program) (K : Params → Frag) (n : Nat) (T : Tab) (r : Ev) (f : Fx) (t : Expr) (op : Operator) (v : Expr) (p : Pos) (σ : S) (o : Orc) : R Out := match t with
  | .Subscript a i q => askS prog K n f (.AugAssign (.Subscript a i q) op v p) σ o
  | t => stS prog K n T r f (.AugAssign t op v p) σ o
noncomputable def lawS (prog : Program) (K : Params → Frag) (n : Nat) (U : Tab2) (r : Ev) (f : Fx) (st : Stmt) (σ : S) (o : Orc) : R Out := match st with
  | .Assign ts v p => lawAsgs prog K n U.T r f ts v p σ o
  | .For t iter body orelse p => lawForD prog K n U r f t iter body orelse p σ o
  | .AugAssign t op v p => lawAug prog K n U.T r f t op v p σ o
  | st => stS prog K n U.T r f st σ o
theorem lawNameSt_ok (HT : TabOk K U.T) (H : Sound prog K n r) {x : Str} {xp : Pos} {v : Expr} {p : Pos} {z : Out} {σ' : S} {o' : Orc} {g : List Prop} (h : lawNameSt prog K (n + 1) U.T r f x xp v p σ o = some (z, σ', o', g)) (hg : ∀ p ∈ g, p) : EvS prog K f (n + 1) (.Assign [.Name x xp] v p) σ z σ' := by
  cases v with
  | ListComp a b c d =>
    obtain ⟨av, σ₁, o₁, g1, g2, h1, h, k1⟩ := bnd_some h
    obtain ⟨k, hk, h⟩ := opt_some h
    cases k with
    | cell =>
      obtain ⟨i, hi, h⟩ := opt_some h
      obtain ⟨ao, ho, h⟩ := opt_some h
      rw [nth_eq] at ho
      cases ao with
      | cell =>
        refine finS h ?_
        rw [upd_eq]
        exact .assignC (H.e' h1 (k1 hg).1) hi ho hk fun _ e => swaps_cell e
      | _ => exact no_ h
    | _ => exact no_ h
  | _ => exact stS_ok (o := o) HT H h hg
theorem lawSubSt_ok (H : Sound prog K n r) {a s v : Expr} {tp pos : Pos} {z : Out} {σ' : S} {o' : Orc} {g : List Prop} (h : lawSubSt r f a s v σ o = some (z, σ', o', g)) (hg : ∀ p ∈ g, p) : EvS prog K f (n + 1) (.Assign [.Subscript a s tp] v pos) σ z σ' := by
  obtain ⟨hc, h⟩ := tst_some h
  obtain ⟨av, σ₁, o₁, g1, g2, h1, h, k1⟩ := bnd_some h
  obtain ⟨w, σ₂, o₂, g3, g4, h2, h, k2⟩ := bnd_some h
  obtain ⟨y, σ₃, o₃, g5, g6, h3, h, k3⟩ := bnd_some h
  have k1 := k1 hg
  have k2 := k2 k1.2
  have k3 := k3 k2.2
  have E1 := H.e' h1 k1.1
  have E2 := H.e' h2 k2.1
  have E3 := H.e' h3 k3.1
  unfold subSt at h
  cases q : dictAt σ₃ w with
  | some p =>
    rw [q] at h
    obtain ⟨rfl, a2⟩ := dictAt_of q
    obtain ⟨k, h4, h⟩ := opt_some h
    obtain ⟨h5, h⟩ := tst_some h
    refine finS h ?_
    rw [upd_eq]
    exact .setD E1 E2 E3 h4 a2 (Nat.le_of_ble_eq_true h5) fun _ => swaps_plain hc
  | none =>
    rw [q] at h
    exact ilSt_ok hc E1 E2 E3 h k3.2
theorem lawAsg_ok (HT : TabOk K U.T) (H : Sound prog K n r) {t v : Expr} {p : Pos} {z : Out} {σ' : S} {o' : Orc} {g : List Prop} (h : lawAsg prog K (n + 1) U.T r f t v p σ o = some (z, σ', o', g)) (hg : ∀ p ∈ g, p) : EvS prog K f (n + 1) (.Assign [t] v p) σ z σ' := by
  cases t with
  | Tuple => exact askS_ok h hg
  | Name => exact lawNameSt_ok HT H h hg
  | Subscript => exact lawSubSt_ok H h hg
  | _ => exact stS_ok (o := o) HT H h hg
theorem lawForD_ok (HU : Tab2Ok K U) (H : Sound prog K n r) {t iter : Expr} {body orelse : List Stmt} {p : Pos} {z : Out} {σ' : S} {o' : Orc} {g : List Prop} (h : lawForD prog K (n + 1) U r f t iter body orelse p σ o = some (z, σ', o', g)) (hg : ∀ p ∈ g, p) : EvS prog K f (n + 1) (.For t iter body orelse p) σ z σ' := by
  cases orelse with
  | cons => exact no_ h
  | nil =>
    cases o with
    | nil => exact lawFor_ok HU H h hg
    | cons q o =>
      cases q with
      | s x σ₂ => cases h; exact hg _ (.head _)
      | _ => exact lawFor_ok HU H h hg
theorem lawAug_ok (HT : TabOk K U.T) (H : Sound prog K n r) {t : Expr} {op : Operator} {v : Expr} {p : Pos} {z : Out} {σ' : S} {o' : Orc} {g : List Prop} (h : lawAug prog K (n + 1) U.T r f t op v p σ o = some (z, σ', o', g)) (hg : ∀ p ∈ g, p) : EvS prog K f (n + 1) (.AugAssign t op v p) σ z σ' := by
  cases t with
  | Subscript => exact askS_ok h hg
  | _ => exact stS_ok (o := o) HT H h hg
theorem lawS_ok (HU : Tab2Ok K U) (H : Sound prog K n r) {st : Stmt} {z : Out} {σ' : S} {o' : Orc} {g : List Prop} (h : lawS prog K (n + 1) U r f st σ o = some (z, σ', o', g)) (hg : ∀ p ∈ g, p) : EvS prog K f (n + 1) st σ z σ' := by
  cases st with
  | Assign ts v p =>
    rcases ts with _ | ⟨t, _ | ⟨t', ts⟩⟩
    · exact no_ h
    · exact lawAsg_ok HU.T H h hg
    · exact no_ h
  | For => exact lawForD_ok HU H h hg
  | AugAssign => exact lawAug_ok HU.T H h hg
  | _ => exact stS_ok (o := o) HU.T H h hg
noncomputable def lawB (prog : Program) (K : Params → Frag) (n : Nat) (U : Tab2) (r : Ev) (f : Fx) : List Stmt → S → Orc → R Out
  | [], σ, o => ret .next σ o
  | st :: rest, σ, o => bnd (lawS prog K n U r f st σ o) fun z σ o => match isNext z with
    | true => lawB prog K n U r f rest σ o
    | false => ret z σ o
theorem lawB_ok (HU : Tab2Ok K U) (H : Sound prog K n r) : ∀ {b : List Stmt} {σ : S} {o : Orc} {z : Out} {σ' : S} {o' : Orc} {g : List Prop}, lawB prog K (n + 1) U r f b σ o = some (z, σ', o', g) → (∀ p ∈ g, p) → EvB prog K f (n + 1) b σ z σ'
  | [], σ, o, z, σ', o', g, h, hg => by cases h; exact .nil
  | st :: rest, σ, o, z, σ', o', g, h, hg => by
    replace h := bnd_some h
    obtain ⟨y, σ₁, o₁, g1, g2, h1, h, k1⟩ := h
    have k1 := k1 hg
    have E1 := lawS_ok HU H h1 k1.1
    cases e : isNext y with
    | true =>
      rw [e] at h
      have : y = .next := by cases y <;> first | rfl | cases e
      rw [this] at E1
      exact .cons E1 (lawB_ok HU H h k1.2)
    | false =>
      rw [e] at h
      cases h
      exact .stop E1 fun q => by rw [q] at e; cases e
noncomputable def lawEv (prog : Program) (K : Params → Frag) (U : Tab2) (n : Nat) (r : Ev) : Ev := { e := lawE prog K n U r, t := lawT n r, b := lawB prog K n U r, c := stC U.T r }
noncomputable def lawN (prog : Program) (K : Params → Frag) (U : Tab2) : Nat → Ev
  | 0 => noEv
  | n + 1 => lawEv prog K U (n + 1) (lawN prog K U n)
theorem lawN_ok (HU : Tab2Ok K U) : ∀ n, Sound prog K n (lawN prog K U n)
  | 0 => ⟨fun h => (nomatch h), fun h => (nomatch h), fun h => (nomatch h), fun h => (nomatch h)⟩
  | n + 1 => by
    have H := lawN_ok HU n
    refine ⟨fun h hg => lawE_ok HU.T H h hg, fun h hg => lawT_ok HU.T H h hg, fun h hg => lawB_ok HU H h hg, fun h hg => ?_⟩
    obtain ⟨h1, h2⟩ := stC_ok HU.T H h hg
    exact ⟨h1.more (Nat.le_succ _), h2⟩
end
theorem swap_env {ts : List Expr} {v : Expr} {env env' : Env} (h : env.scope = env'.scope) : swappedStores ts v env = swappedStores ts v env' := by
  unfold swappedStores Env.blockKind Env.kindOf
  rw [h]
abbrev envOf (cs : Scope) : Env := envX (Str.ofString "") cs 0 0 .none []
section
variable {prog : Program} {K : Params → Frag} {f : Fx} {d : Nat} {σ σ₁ σ₂ σ₃ : S}
noncomputable def bindNs (f : Fx) : List Str → List AV → S → Option S
  | [], [], σ => some σ
  | x :: xs, v :: vs, σ => match look x f.cs.names with
    | some .local => opt (setLoc x v σ.locs) fun l => bindNs f xs vs { σ with locs := l }
    | _ => none
  | _, _, _ => none
theorem bindNs_of : ∀ {xs : List Str} {vs : List AV} {σ σ' : S}, bindNs f xs vs σ = some σ' → EvNs f xs vs σ σ'
  | [], [], σ, σ', h => by cases h; exact .nil
  | [], _ :: _, _, _, h => nomatch h
  | _ :: _, [], _, _, h => nomatch h
  | x :: xs, v :: vs, σ, σ', h => by
    unfold bindNs at h
    split at h
    · rename_i hk
      replace h := opt_some h
      obtain ⟨l, h1, h⟩ := h
      exact .cons h1 hk (bindNs_of h)
    · first | exact no_ h | cases h
theorem EvS.assignW2 {ts : List Expr} {k : Nat} {tp pos : Pos} {v : Expr} {x : AV} {xs : List AV} {names : List Str} {σ' : S} (hf : f.fn = true) (h : EvE prog K f d v σ x σ₁) (ht : IsT K σ₁ x xs) (hn : bindNs f names.reverse xs.reverse σ₁ = some σ') (hl : names.length = xs.length) (hc : notComp v = true)
    (hw : swappedStores [.Tuple ts k tp] v (envOf f.cs) = pure (some names)) : EvS prog K f d (.Assign [.Tuple ts k tp] v pos) σ .next σ' :=
  .assignW hf h ht (bindNs_of hn) hl (fun _ => by unfold swapsWithSole; exact swaps_plain hc) fun env he => (swap_env he).trans hw
theorem EvS.assignT2 {U : Tab2} (HU : Tab2Ok K U) {ts : List Expr} {k : Nat} {tp pos : Pos} {v : Expr} {x : AV} {σ' : S} (h : EvE prog K f d v σ x σ₁) (ht : tgt U f (.Tuple ts k tp) x σ₁ = some σ') (hc : notComp v = true)
    (hw : swappedStores [.Tuple ts k tp] v (envOf f.cs) = pure none) : EvS prog K f d (.Assign [.Tuple ts k tp] v pos) σ .next σ' :=
  .assignT h (tgt_ok HU ht) (fun _ => by unfold swapsWithSole; exact swaps_plain hc) fun env he => (swap_env he).trans hw
end
structure CP where
  elt : Expr
  x : Str
  px : Pos
  iter : Expr
  ifs : List Expr
  scope : Scope
  pos : Pos
noncomputable def CP.e (p : CP) : Expr := .ListComp p.elt [⟨.Name p.x p.px, p.iter, p.ifs, 0⟩] p.scope p.pos
noncomputable def cpNil : CP := ⟨.Constant .none 0 default, Str.ofString "", default, .Constant .none 0 default, [], default, default⟩
noncomputable def cpOf : Expr → CP
  | .ListComp elt [⟨.Name x px, iter, ifs, _⟩] scope pos => ⟨elt, x, px, iter, ifs, scope, pos⟩
  | _ => cpNil
noncomputable def isFn : ScopeKind → Bool
  | .function => true
  | _ => false
noncomputable def isCell : NameKind → Bool
  | .cell => true
  | _ => false
noncomputable def isLocal : NameKind → Bool
  | .local => true
  | _ => false
noncomputable def isFree : NameKind → Bool
  | .free => true
  | _ => false
noncomputable def namesB (all : List (Str × NameKind)) (cells : List (Str × Nat)) : List (Str × NameKind) → Bool
  | [] => true
  | (y, k) :: r => match isCell k with
    | true => false
    | false => match isLocal k, look y all with
      | true, some .local => namesB all cells r
      | true, _ => false
      | false, _ => match isFree k, look y cells with
        | true, some _ => namesB all cells r
        | true, none => false
        | false, _ => namesB all cells r
theorem namesB_of {all : List (Str × NameKind)} {cells : List (Str × Nat)} : ∀ {l : List (Str × NameKind)}, namesB all cells l = true → ∀ p ∈ l, p.2 ≠ .cell ∧ (p.2 = .local → look p.1 all = some .local) ∧ (p.2 = .free → ∃ i, (p.1, i) ∈ cells)
  | [], _, _, h => nomatch h
  | (y, k) :: r, h, p, hp => by
    unfold namesB at h
    cases e : isCell k with
    | true => rw [e] at h; first | exact no_ h | cases h
    | false =>
    rw [e] at h
    dsimp only at h
    rcases List.mem_cons.mp hp with rfl | hp
    · refine ⟨fun q => (by rw [show k = .cell from q] at e; cases e), fun q => ?_, fun q => ?_⟩
      · obtain rfl : k = .local := q
        dsimp only [isLocal] at h
        cases q : look y all with
        | none => rw [q] at h; first | exact no_ h | cases h
        | some k' => rw [q] at h; cases k' <;> first | rfl | exact no_ h | (cases h; done)
      · obtain rfl : k = .free := q
        dsimp only [isLocal, isFree] at h
        cases e3 : look y cells with
        | none => rw [e3] at h; first | exact no_ h | cases h
        | some i => exact ⟨i, look_mem e3⟩
    · refine namesB_of ?_ p hp
      split at h
      · exact h
      · first | exact no_ h | cases h
      · split at h
        · exact h
        · first | exact no_ h | cases h
        · exact h
noncomputable def csB (names : List (Str × NameKind)) (cells : List (Str × Nat)) : List (Str × Nat) → Bool
  | [] => true
  | (y, i) :: r => match look y names with
    | some .free => match look y cells with
      | some j => match Nat.beq j i with
        | true => csB names cells r
        | false => false
      | none => false
    | _ => false
theorem csB_of {names : List (Str × NameKind)} {cells : List (Str × Nat)} : ∀ {l : List (Str × Nat)}, csB names cells l = true → ∀ p ∈ l, p ∈ cells ∧ (p.1, NameKind.free) ∈ names
  | [], _, _, h => nomatch h
  | (y, i) :: r, h, p, hp => by
    unfold csB at h
    split at h
    · rename_i e1
      split at h
      · rename_i j e2
        split at h
        · rename_i e3
          rcases List.mem_cons.mp hp with rfl | hp
          · have := Nat.eq_of_beq_eq_true e3
            subst this
            exact ⟨look_mem e2, look_mem e1⟩
          · exact csB_of h p hp
        · first | exact no_ h | cases h
      · first | exact no_ h | cases h
    · first | exact no_ h | cases h
noncomputable def compOkB (f : Fx) (scope : Scope) (x : Str) (cs cells : List (Str × Nat)) : Bool := match isFn scope.kind with
  | true => match namesB scope.names cells scope.names with
    | true => match look x scope.names with
      | some .local => match f.fn with
        | true => csB scope.names cells cs
        | false => false
      | _ => false
    | false => false
  | false => false
/-- the frame of a comprehension -/
noncomputable def gOf (f : Fx) (scope : Scope) : Fx := ⟨relab f.cs scope, false⟩
theorem compOkB_of {f : Fx} {scope : Scope} {x : Str} {cs cells : List (Str × Nat)} (h : compOkB f scope x cs cells = true) : CompOk f (gOf f scope) scope x cs cells := by
  unfold compOkB at h
  cases e1 : isFn scope.kind with
  | false => rw [e1] at h; first | exact no_ h | cases h
  | true =>
  rw [e1] at h
  dsimp only at h
  cases e2 : namesB scope.names cells scope.names with
  | false => rw [e2] at h; first | exact no_ h | cases h
  | true =>
  rw [e2] at h
  dsimp only at h
  split at h
  · rename_i e3
    cases e4 : f.fn with
    | false => rw [e4] at h; first | exact no_ h | cases h
    | true =>
      rw [e4] at h
      have N := namesB_of e2
      exact { kind := by cases q : scope.kind <;> first | rfl | (rw [q] at e1; cases e1)
              cell := fun y hy => (N y hy).1
              names := fun y hy => (N y hy).2.1
              x := e3
              g := rfl
              fn := e4
              free := fun y hy => (N _ hy).2.2 rfl
              cs := csB_of h }
  · first | exact no_ h | cases h
theorem rvs_ints {as : List Addr} : ∀ {l : List Int} {us : List Value}, RVs as (l.map .int) us → IntsAre us l
  | [], _, .nil => .nil
  | x :: _, _, .cons ⟨t, e⟩ rs => by subst e; exact .cons x t (rvs_ints rs)
theorem wkInts {l : List Int} : WkO (.list (l.map .int)) (.il l) := fun _ _ _ ⟨vs, n, e, r⟩ => ⟨vs, n, e, rvs_ints r⟩
section
variable {prog : Program} {K : Params → Frag} {f g : Fx} {d : Nat} {σ σ₁ σ₂ σ' : S}
theorem EvE.wkV {e : Expr} {x y : AV} (h : EvE prog K f d e σ x σ') (w : WkV x y) : EvE prog K f d e σ y σ' := by
  intro c ok as os m s Q E R hq
  exact h c ok as os m s Q E R fun bs os' m' v s' rv R' => hq bs os' m' v s' (w _ _ rv) R'
/-- one turn that makes nothing -/
noncomputable def Turn1 (prog : Program) (K : Params → Frag) (g : Fx) (d : Nat) (x : Str) (cs : List (Str × Nat)) (ifs : List Expr) (elt : Expr) (ob : List AO) (k : Int) : Option Int → Prop
  | some z => ∃ τ₁ τ₂ y, EvIfs prog K g d ifs ⟨ob, [(x, some (.int k))], cs⟩ true τ₁ ∧ EvE prog K g d elt τ₁ y τ₂ ∧ WkV y (.int z) ∧ τ₂.objs = ob
  | none => ∃ τ₁, EvIfs prog K g d ifs ⟨ob, [(x, some (.int k))], cs⟩ false τ₁ ∧ τ₁.objs = ob
theorem CTurns.ints {x : Str} {cs : List (Str × Nat)} {ifs : List Expr} {elt : Expr} {Kp : List AO → Prop} {ob : List AO} {F : Int → Option Int} (hk : Kp ob) : ∀ {l : List Int}, (∀ k ∈ l, Turn1 prog K g d x cs ifs elt ob k (F k)) → CTurns prog K g d x cs ifs elt Kp (l.map .int) ob ((l.filterMap F).map .int) ob
  | [], _ => .nil hk
  | k :: l, h => by
    have h1 := h k (.head _)
    have ih := CTurns.ints (l := l) (F := F) hk fun k hk => h k (.tail _ hk)
    rw [List.filterMap_cons]
    cases e : F k with
    | none =>
      rw [e] at h1
      obtain ⟨τ₁, h2, h3⟩ := h1
      exact .skip hk h2 (by rw [h3]; exact ih)
    | some z =>
      rw [e] at h1
      obtain ⟨τ₁, τ₂, y, h2, h3, h4, h5⟩ := h1
      exact .keep hk h2 (h3.wkV h4) (by rw [h5]; exact ih)
theorem rangeAV_ints {a k : Int} : ∀ {n i : Nat}, rangeAV a k i n = ((List.range' i n).map fun (j : Nat) => a + (j : Int) * k).map .int
  | 0, _ => rfl
  | n + 1, i => by
    rw [List.range'_succ, List.map_cons, List.map_cons, rangeAV, rangeAV_ints]
/-- the ints of a range -/
noncomputable def rints (a k : Int) (n : Nat) : List Int := (List.range' 0 n).map fun (j : Nat) => a + (j : Int) * k
theorem EvE.compLI {p : CP} {i : Nat} {l : List Int} {F : Int → Option Int} {cs : List (Str × Nat)} (h : EvE prog K f d p.iter σ (.obj i) σ₁) (ho : σ₁.objs[i]? = some (.il l)) (co : compOkB f p.scope p.x cs σ₁.cells = true) (hc : σ₁.cells = σ.cells) (hz : l.length ≤ 60000)
    (ht : ∀ k ∈ l, Turn1 prog K (gOf f p.scope) d p.x cs p.ifs p.elt σ₁.objs k (F k)) (hi : plainIter p.iter = true) : EvE prog K f d p.e σ (.obj σ₁.objs.length) { σ₁ with objs := σ₁.objs ++ [.il (l.filterMap F)] } :=
  .compL h (.told ho rfl) (compOkB_of co) hc (CTurns.ints (Kp := fun ob => SrcL K ⟨ob, [], []⟩ (.obj i) (l.map .int)) (.told ho rfl) ht) (by rw [List.length_map]; exact hz) wkInts (plainIter_of hi)
theorem EvE.compRI {p : CP} {i n : Nat} {a b k : Int} {F : Int → Option Int} {cs : List (Str × Nat)} (h : EvE prog K f d p.iter σ (.obj i) σ₁) (ho : σ₁.objs[i]? = some (.rng a b k)) (hsm : Builtin.Range.small a b k = true) (hn : Builtin.Range.rangeSize a b k = (n : Int)) (co : compOkB f p.scope p.x cs σ₁.cells = true) (hc : σ₁.cells = σ.cells) (hz : n ≤ 60000)
    (ht : ∀ z ∈ rints a k n, Turn1 prog K (gOf f p.scope) d p.x cs p.ifs p.elt σ₁.objs z (F z)) (hi : plainIter p.iter = true) : EvE prog K f d p.e σ (.obj σ₁.objs.length) { σ₁ with objs := σ₁.objs ++ [.il ((rints a k n).filterMap F)] } := by
  refine .compR h ho hsm hn (compOkB_of co) hc ?_ hz wkInts (plainIter_of hi)
  rw [rangeAV_ints]
  exact CTurns.ints trivial ht
end
theorem execs_app (l rest : List Stmt) (env : Env) : execs (l ++ rest) env = (execs l env >>= fun f => match f with | .next => execs rest env | f => pure f) := by
  induction l with
  | nil => rfl
  | cons s l ih =>
    show (exec s env >>= fun f => match f with | .next => execs (l ++ rest) env | f => pure f) = ((exec s env >>= fun f => match f with | .next => execs l env | f => pure f) >>= _)
    rw [LawfulMonad.bind_assoc]
    congr 1
    funext f
    cases f with
    | next => exact ih
    | brk => rfl
    | cont => rfl
    | ret v => rfl
noncomputable def closN (cells : List (Str × Nat)) : List (Str × NameKind) → List (Str × Nat) → Option (List (Str × Nat))
  | [], acc => some acc
  | (x, k) :: r, acc => match k with
    | .free => match cells.lookup x with
      | some i => closN cells r ((x, i) :: acc)
      | none => none
    | _ => closN cells r acc
theorem mem_of_lookupN : ∀ {l : List (Str × Nat)} {x : Str} {i : Nat}, l.lookup x = some i → (x, i) ∈ l
  | [], _, _, h => nomatch h
  | (y, j) :: r, x, i, h => by
    rw [List.lookup_cons] at h
    cases e : x == y with
    | true => rw [e] at h; cases h; rw [eq_of_beq e]; exact .head _
    | false => rw [e] at h; exact .tail _ (mem_of_lookupN h)
theorem closN_go {env : Env} {as : List Addr} {cells : List (Str × Nat)} (H : ∀ (x : Str) (i : Nat), (x, i) ∈ cells → ∃ a, env.cells.lookup x = some a ∧ as[i]? = some a) : ∀ {names : List (Str × NameKind)} {acc cl : List (Str × Nat)} {bs : List (Str × Addr)}, closN cells names acc = some cl → RCs as acc bs →
    ∃ out, (forIn names bs fun x r => (match x with | (name, kind) => if (kind == NameKind.free) = true then do let a ← cellOf env name; pure (ForInStep.yield ((name, a) :: r)) else pure (ForInStep.yield r) : Sem (ForInStep (List (Str × Addr))))) = pure out ∧ RCs as cl out
  | [], acc, cl, bs, h, r => by cases h; exact ⟨bs, rfl, r⟩
  | (x, k) :: rest, acc, cl, bs, h, r => by
    unfold closN at h
    rw [List.forIn_cons]
    by_cases hk : k = .free
    · subst hk
      dsimp only at h
      cases e : cells.lookup x with
      | none => rw [e] at h; exact no_ h
      | some i =>
        rw [e] at h
        obtain ⟨a, h1, h2⟩ := H x i (mem_of_lookupN e)
        obtain ⟨out, h3, h4⟩ := closN_go H h (.cons h2 r)
        refine ⟨out, ?_, h4⟩
        have : cellOf env x = pure a := by unfold cellOf; rw [h1]
        simp only [this, pure_bind, beq_self_eq_true, if_true]
        exact h3
    · have h' : closN cells rest acc = some cl := by cases k <;> first | exact h | exact absurd rfl hk
      obtain ⟨out, h3, h4⟩ := closN_go H h' r
      refine ⟨out, ?_, h4⟩
      have : (k == NameKind.free) = false := by rw [beq_eq_false_iff_ne]; exact hk
      simp only [this, Bool.false_eq_true, if_false, pure_bind]
      exact h3
theorem closN_ok {scope : Scope} {env : Env} {as : List Addr} {cells cl : List (Str × Nat)} (H : ∀ (x : Str) (i : Nat), (x, i) ∈ cells → ∃ a, env.cells.lookup x = some a ∧ as[i]? = some a) (h : closN cells scope.names [] = some cl) : ∃ bs, closureFor scope env = pure bs ∧ RCs as cl bs := by
  obtain ⟨out, h1, h2⟩ := closN_go H h .nil
  refine ⟨out, ?_, h2⟩
  unfold closureFor
  refine Eq.trans ?_ (congrArg (· >>= pure) h1 |>.trans (pure_bind _ _))
  congr 1
theorem RCs.at {as : List Addr} {cl : List (Str × Nat)} {bs : List (Str × Addr)} (h : RCs as cl bs) (nd : (cl.map (·.1)).Nodup) : ∀ (x : Str) (i : Nat), (x, i) ∈ cl → ∃ a, bs.lookup x = some a ∧ as[i]? = some a := by
  induction h with
  | nil => exact fun _ _ h => nomatch h
  | @cons y j b xs vs r _ ih =>
    intro x i hm
    have nd' := List.nodup_cons.mp (show (y :: xs.map (·.1)).Nodup from nd)
    rcases List.mem_cons.mp hm with e | hm2
    · cases e; exact ⟨b, by rw [List.lookup_cons_self], r⟩
    · obtain ⟨a, h1, h2⟩ := ih nd'.2 x i hm2
      refine ⟨a, ?_, h2⟩
      rw [List.lookup_cons]
      have hm3 : x ∈ xs.map (·.1) := List.mem_map_of_mem (f := (·.1)) hm2
      have : (x == y) = false := by
        rw [beq_eq_false_iff_ne]; intro e; exact nd'.1 (e ▸ hm3)
      rw [this]; exact h1
theorem TabIs.ok {ps : List Pos} {a : Array Value} (h : TabIs ps a) : TriplesOk a.toList := by
  induction h with
  | nil => exact trivial
  | add c _ ih => rw [Array.toList_append]; exact TriplesOk_snoc _ _ _ _ ih
theorem codeAmong_more {pos : Pos} {a b : Int} {c : Value} (l : List Value) (h : TriplesOk l) (hn : codeAmong pos l = none) (hd : (a == (pos.line : Int) && b == (pos.col : Int)) = false) : codeAmong pos (l ++ [rawInt a, rawInt b, c]) = none := by
  fun_induction TriplesOk l with
  | case1 => simp [codeAmong, rawInt, hd]
  | case2 a' t b' u x rest ih =>
    simp only [List.cons_append, codeAmong] at hn ⊢
    split at hn
    · exact no_ hn.symm
    · rename_i q
      rw [if_neg q]
      exact ih h hn
  | case3 => exact h.elim
noncomputable def freshP (p : Pos) : List Pos → Bool
  | [] => true
  | q :: r => !(Nat.beq q.line p.line && Nat.beq q.col p.col) && freshP p r
theorem TabIs.fresh {p : Pos} {ps : List Pos} {a : Array Value} (h : TabIs ps a) : freshP p ps = true → codeAmong p a.toList = none := by
  induction h with
  | nil => exact fun _ => rfl
  | @add q ps a c h ih =>
    intro hf
    have hf' := Bool.and_eq_true_iff.mp hf
    rw [Array.toList_append]
    refine codeAmong_more _ h.ok (ih hf'.2) ?_
    have h1 := hf'.1
    simp only [Bool.not_eq_true', Bool.and_eq_false_iff] at h1 ⊢
    rcases h1 with h1 | h1
    · left; rw [beq_eq_false_iff_ne]; intro e; have : q.line = p.line := by exact_mod_cast e
      rw [this, Nat.beq_refl] at h1; cases h1
    · right; rw [beq_eq_false_iff_ne]; intro e; have : q.col = p.col := by exact_mod_cast e
      rw [this, Nat.beq_refl] at h1; cases h1
noncomputable def cdC (vs : List Value) : Code := .call (vs.headD .none) ⟨vs.tail, []⟩
structure FnCOk (F : FnC) : Prop where
  bind : ∀ (cl : List (Str × Addr)) (doc pm : Value) (ce : Addr) (ctv : Value) (vs : List Value), vs.length = F.xs.length → bindArgs (fnX F.name F.qual F.params F.body F.cs cl .none .none doc pm none (.ref ce) ctv) ⟨vs, []⟩ = pure (F.xs.zip vs)
  loc : ∀ y ∈ F.xs, F.cs.names.lookup y = some .local
  nd : (F.xs ++ F.rest).Nodup
  cell : ∀ y ∈ F.cs.names, y.2 ≠ .cell
  co : F.cs.isCoroutine = false
  gen : F.cs.isGenerator = false
  kind : F.cs.kind = .function
/-- the function object at k -/
theorem fn_at {c : Cx} {σ : S} {as : List Addr} {os : List Obj} {m : Str → Option Value} {s : Shared} {F : FnC} {cl : List (Str × Nat)} {k j : Nat} {fa : Addr} (R : At c as os m σ s) (hk : σ.objs[k]? = some (.fn F cl j)) (hj : σ.objs[j]? = some (.code F.qual)) (e : as[k]? = some fa) :
    ∃ bs ce doc pm ctv, s.heap.get? fa = some (fnMade F.name F.qual F.params F.body F.cs bs doc pm ce ctv) ∧ RCs as cl bs ∧ s.heap.CodeRec (.ref ce) F.qual := by
  obtain ⟨fa', ofn, g1, _, _, g2, bs, ce, doc, pm, ctv, rc, rce, rfl⟩ := R.obj hk
  rw [e] at g1; cases g1
  obtain ⟨ce', oce, j1, _, _, j2, vsC, tC, jd, jv⟩ := R.obj hj
  rw [rce] at j1; cases j1
  exact ⟨bs, ce, doc, pm, ctv, g2, rc, ce, oce, vsC, tC, rfl, j2, jd, jv⟩
section
variable {prog : Program} {K : Params → Frag} {d : Nat}
theorem callC_of {F : FnC} {k j : Nat} {cl : List (Str × Nat)} {args : List AV} {objs objs' : List AO} {o : Out} {σ' : S} {x : AV} (H : FnCOk F) (hk : objs[k]? = some (.fn F cl j)) (hj : objs[j]? = some (.code F.qual)) (hnd : (cl.map (·.1)).Nodup)
    (hlen : args.length = F.xs.length) (hb : EvB prog K ⟨F.cs, true⟩ d F.body ⟨objs, locs0 F.xs args F.rest, cl⟩ o σ') (ho : retO o = x) (hob : σ'.objs = objs') : CallG prog K cdC d (.obj k :: args) objs x objs' := by
  intro f c σ hf ok hσ as os m s vs0 Q E R rvs0 hq
  subst hσ ho hob
  cases rvs0 with
  | cons rk rvs =>
  rename_i v0 vs
  obtain ⟨fa, e1, rfl⟩ := rk
  obtain ⟨bs, ce, doc, pm, ctv, g2, rc, hcd⟩ := fn_at R hk hj e1
  exact callX_at (cl := cl) (an := none) (doc := doc) (pm := pm) hf ok R rvs g2 rfl hcd (BindsTo.of_eq (H.bind bs doc pm ce ctv vs (rvs.length.trans hlen))) H.loc H.nd H.cell H.co H.gen H.kind hlen (rc.at hnd) hb hq
end
section
variable {prog : Program} {K : Params → Frag} {f : Fx} {d : Nat} {σ σ₁ σ₂ σ₃ : S}
/-- a call of a closure -/
theorem EvE.callClo {x : Str} {p : Pos} {es : List Expr} {pos : Pos} {F : FnC} {cl : List (Str × Nat)} {k j : Nat} {xs : List AV} {y : AV} {objs' : List AO} (hf : f.fn = true) (h1 : EvE prog K f (d + 1) (.Name x p) σ (.obj k) σ₁) (hs : ∀ e ∈ es, notStar e = true)
    (ha : EvA prog K f (d + 1) es σ₁ xs σ₂) (ho2 : σ₂.objs[k]? = some (.fn F cl j)) (hc : CallG prog K cdC d (.obj k :: xs) σ₂.objs y objs') :
    EvE prog K f (d + 1) (.Call (.Name x p) es [] pos) σ y { σ₂ with objs := objs' } := by
  intro c ok as os m s Q E R hq
  refine Call_ (h1 c ok as os m s _ E R fun bs os₁ m₁ v s₁ rv R₁ => ?_) rfl
  obtain ⟨q, hq1, rfl⟩ := rv
  refine callWith_at ok R₁ hs ha (P := fun h => FnAt q h) (fun h X => keeps_F h X) fun bs₂ os₂ m₂ vs s₂ rvs R₂ => ?_
  obtain ⟨a, o, g1, g2, g3, g4, bs', ce, doc, pm, ctv, _, _, rfl⟩ := R₂.obj ho2
  rw [getElem?_app hq1] at g1
  cases g1
  refine ⟨⟨_, _, _, _, g4⟩, wpAny_call ?_⟩
  refine hc f c σ₂ hf ok rfl _ os₂ m₂ s₂ (.ref q :: vs) Q E R₂ (.cons ⟨q, getElem?_app hq1, rfl⟩ rvs) fun bs₃ os₃ m₃ v s₃ rv R₃ => ?_
  rw [List.append_assoc, List.append_assoc] at rv R₃
  exact hq _ _ _ _ _ rv R₃
/-- a store into a list, with what lay there -/
theorem EvS.augI {o i : Expr} {tpos pos : Pos} {op : Operator} {value : Expr} {y v new : AV} {j : Nat} {xs : List Int} {k z : Int} {gs : List Prop} (h1 : EvE prog K f d o σ (.obj j) σ) (h2 : EvE prog K f d i σ y σ) (h3 : EvE prog K f d value σ v σ) (hy : y.i? = some k) (hj : σ.objs[j]? = some (.il xs)) (hg : InB xs.length k)
    (ho : opV op (.int (xs.getD k.toNat 0)) v = some (new, gs)) (hgs : ∀ p ∈ gs, p) (hz : new.i? = some z)
    (hi : ∀ ov iv nv, augStore i ov iv nv = (do holding [nv, ov, iv] (setItem ov iv nv); release [nv, ov, iv] []; pure .next)) :
    EvS prog K f d (.AugAssign (.Subscript o i tpos) op value pos) σ .next { σ with objs := σ.objs.set j (.il (xs.set k.toNat z)) } := by
  intro c ok as os m s Q E R hq
  refine wpAny_AugAssign_SubscriptAny (h1 c ok as os m s _ E R fun bs os₁ m₁ w s₁ rw R₁ => h2 c ok _ os₁ m₁ s₁ _ E R₁ fun bs₂ os₂ m₂ u s₂ ru R₂ => ?_) hi
  obtain ⟨a, ha, rfl⟩ := rw
  obtain ⟨t', rfl⟩ := ru.int_of hy
  obtain ⟨a', ob, g1, g2, _, g2', vs, n, rfl, g3⟩ := R₂.obj hj
  have g1' := getElem?_app (r := bs₂) ha
  rw [g1'] at g1
  cases g1
  refine getItem_intsK (vs := vs.toList) (listOf_isList (n := n) (by simpa using g2')) g3 hg.1 hg.2.1 hg.2.2 fun t => ?_
  refine h3 c ok _ os₂ m₂ s₂ _ E R₂ fun bs₃ os₃ m₃ b s₃ rb R₃ => ?_
  refine opV_inplace ho hgs c.w c.A (as ++ bs ++ bs₂ ++ bs₃) _ b s₃ _ E ⟨t, rfl⟩ rb fun r tk rr => ?_
  obtain ⟨tz, rfl⟩ := rr.int_of hz
  obtain ⟨a₃, ob₃, e1, e2, _, _, vs₃, n₃, rfl, e3⟩ := (R₃.toks tk).obj hj
  have ha3 : (as ++ bs ++ bs₂ ++ bs₃)[j]? = some a := getElem?_app g1'
  rw [ha3] at e1
  cases e1
  have hl : vs₃.size = xs.length := by rw [← e3.length]; simp
  refine store_item (ao := .il (xs.set k.toNat z)) (R₃.toks tk) ha3 e2 hg.1 (by rw [hl]; exact hg.2.1) hg.2.2 ⟨_, n₃, rfl, ?_⟩ fun os' s' R' => ?_
  · rw [Array.toList_setIfInBounds]
    exact IntsAre.set e3 _
  · rw [List.append_assoc, List.append_assoc] at R'
    exact hq _ _ _ _ _ rfl R'
noncomputable def DoesFrom (prog : Program) (c : Cx) (as0 : List Addr) (t : Sem Flow) (σ : S) (x : Out) (σ' : S) : Prop :=
  ∀ bs os m s (Q : Flow → Shared → Prop) (E : Value → Shared → Prop), At c (as0 ++ bs) os m σ s →
    (∀ bs' os' m' v s', ROut (as0 ++ bs') x v → At c (as0 ++ bs') os' m' σ' s' → Q v s') → wpAny (model prog c.w) c.A t Q E s
theorem DoesFrom.of {c : Cx} {as0 : List Addr} {b : List Stmt} {out : Out} {σ' : S} (h : EvB prog K f d b σ out σ') (ok : Ok K f d c) : DoesFrom prog c as0 (execs b c.env) σ out σ' := by
  intro bs os m s Q E R hq
  refine h c ok _ os m s Q E R fun bs' os' m' v s' rv R' => ?_
  rw [List.append_assoc] at rv R'
  exact hq _ _ _ _ _ rv R'
theorem DoesFrom.app {c : Cx} {as0 : List Addr} {l rest : List Stmt} {out : Out} {σ' : S} (h1 : DoesFrom prog c as0 (execs l c.env) σ .next σ₁) (h2 : DoesFrom prog c as0 (execs rest c.env) σ₁ out σ') : DoesFrom prog c as0 (execs (l ++ rest) c.env) σ out σ' := by
  intro bs os m s Q E R hq
  rw [execs_app]
  refine wpAny_bind (h1 bs os m s _ E R fun bs₁ os₁ m₁ v s₁ rv R₁ => ?_)
  obtain rfl : v = .next := rv
  exact h2 bs₁ os₁ m₁ s₁ Q E R₁ hq
theorem updF_zip {as : List Addr} {os : List Obj} {rest : List (Addr × Obj)} {i : Nat} {a : Addr} {o : Obj} (h1 : as[i]? = some a) (h2 : os[i]? = some o) (nd : (as ++ rest.map (·.1)).Nodup) :
    UpdF a o (as.zip os ++ rest) (fun o' => as.zip (os.set i o') ++ rest) := by
  have nd' := List.nodup_append.mp nd
  have key : ∀ {as : List Addr} {os : List Obj} {i : Nat}, as[i]? = some a → os[i]? = some o → as.Nodup → (∀ p ∈ rest, p.1 ≠ a) → UpdF a o (as.zip os ++ rest) (fun o' => as.zip (os.set i o') ++ rest) := by
    intro as
    induction as with
    | nil => intro os i h1; simp at h1
    | cons b as ih =>
      intro os i h1 h2 nd hr
      cases os with
      | nil => simp at h2
      | cons x os =>
        cases i with
        | zero =>
          simp at h1 h2
          subst h1 h2
          refine .head fun p hp e => ?_
          rcases List.mem_append.mp hp with hp | hp
          · obtain ⟨p1, p2⟩ := p
            exact (List.nodup_cons.mp nd).1 (e ▸ (List.of_mem_zip hp).1)
          · exact hr p hp e
        | succ i =>
          simp only [List.getElem?_cons_succ] at h1 h2
          refine .tail (fun (e : b = a) => (List.nodup_cons.mp nd).1 (by rw [e]; exact List.mem_of_getElem? h1)) (ih h1 h2 (List.nodup_cons.mp nd).2 hr)
  refine key h1 h2 nd'.1 fun p hp e => ?_
  exact nd'.2.2 a (List.mem_of_getElem? h1) p.1 (List.mem_map_of_mem (f := (·.1)) hp) e.symm
theorem DoesFrom.def {c : Cx} {as0 : List Addr} {name : Str} {params : Arguments} {body : List Stmt} {scope : Scope} {pos : Pos} {cn : Str} {cs : Scope} {L fa ca P : Addr} {cl0 : List (Str × Addr)} {it ic : Nat} {ps : List Pos} {cl : List (Str × Nat)} {u : Option AV} {xs rest : List Str} {qual : Str}
    (hf : f.fn = true) (ok : Ok K f d c) (henv : c.env = envX cn cs L fa (.ref ca) cl0) (C : CodeHd c.h₀ ca P) (hP : as0[it]? = some P) (ht : σ.objs[it]? = some (.tab ps)) (hfr : freshP pos ps = true) (hc : closN σ.cells scope.names [] = some cl)
    (hd0 : params.defaults = []) (hk0 : params.kw_defaults = []) (ha : ∀ env, annTrees params none env = []) (hq0 : qualnameIn (envX cn cs L fa (.ref ca) cl0) name name = qual)
    (hl : look name σ.cells = some ic) (ho : σ.objs[ic]? = some (.cell u)) (hne : ic ≠ it) (hk : look name f.cs.names = some .cell) :
    DoesFrom prog c as0 (exec (.FunctionDef name params body [] none [] scope none name pos) c.env) σ .next
      { σ with objs := (σ.objs.set it (.tab (pos :: ps)) ++ [AO.code qual, AO.fn ⟨name, qual, params, body, scope, xs, rest⟩ cl σ.objs.length]).set ic (.cell (some (.obj (σ.objs.length + 1)))) } := by
  intro bs os m s Q E R hq
  obtain ⟨p, loose, mean, mg, mb, T⟩ := ok.top
  have hLc : L = c.L := by have := (ok.fn hf).2.1; rw [henv] at this; exact this
  subst hLc
  have hP' : (as0 ++ bs)[it]? = some P := getElem?_app hP
  obtain ⟨P', oP, g1, g1', gm, g2, a, ta, rfl⟩ := R.obj ht
  rw [hP'] at g1; cases g1
  obtain ⟨cbs, hcl, rcl⟩ := closN_ok (env := c.env) (as := as0 ++ bs) R.cells hc
  refine nestDef_K hd0 hk0 (ha _) ?_
  rw [henv, hq0]
  rw [henv] at hcl
  have hL : as0.length ≤ σ.objs.length := by rw [R.len', List.length_append]; omega
  refine nest_K R.fr R.news T C rfl (updF_zip hP' g1' R.nodup) ta.ok (ta.fresh hfr) hcl fun fo c' oc vs t ctv doc h' tk F' N' hd hv l1 l2 => ?_
  have hlen0 : (as0 ++ bs).length = os.length := R.len.symm
  have N0 : News c.h₀ c.L h' ((as0 ++ bs).zip (os.set it (tabObj (a ++ #[rawInt pos.line, rawInt pos.col, .ref c']))) ++ c.rest) := fun q hq => N' q (.tail _ (.tail _ hq))
  have R1 : At c (as0 ++ bs) (os.set it (tabObj (a ++ #[rawInt pos.line, rawInt pos.col, .ref c']))) m { σ with objs := σ.objs.set it (.tab (pos :: ps)) } { s with heap := h', toks := tk } :=
    R.upd rfl rfl F' N0 ⟨_, .add c' ta, rfl⟩
  have nf1 : c' ∉ (as0 ++ bs) ++ c.rest.map (·.1) := not_mem_of_lt R.len l1
  have R2 := R1.new (s' := { s with heap := h', toks := tk }) (a := c') (o := oc) (ao := .code qual) rfl rfl F' (fun q hq => N' q (.tail _ hq)) nf1 ⟨vs, t, hd, hv⟩
  have nf2 : fo ∉ (as0 ++ bs ++ [c']) ++ c.rest.map (·.1) := fun q => by
    rcases List.mem_append.mp q with q | q
    · rcases List.mem_append.mp q with q | q
      · exact not_mem_of_lt R.len (fun p hp => Nat.lt_trans (l1 p hp) l2) (List.mem_append_left _ q)
      · rw [List.mem_singleton.mp q] at l2; exact Nat.lt_irrefl _ l2
    · exact not_mem_of_lt R.len (fun p hp => Nat.lt_trans (l1 p hp) l2) (List.mem_append_right _ q)
  have R3 := R2.new (s' := { s with heap := h', toks := tk }) (a := fo) (o := fnMade name qual params body scope cbs doc ((mg "__name__").getD .none) c' ctv) (ao := .fn ⟨name, qual, params, body, scope, xs, rest⟩ cl σ.objs.length) rfl rfl F' (fun q hq => by
    rcases List.mem_cons.mp hq with rfl | hq
    · exact N' _ (.head _)
    · rcases List.mem_append.mp hq with hq | hq
      · rw [List.zip_append R1.len.symm] at hq
        rcases List.mem_append.mp hq with hq | hq
        · exact N' q (.tail _ (.tail _ (List.mem_append_left _ hq)))
        · cases hq with
          | head => exact N' _ (.tail _ (.head _))
          | tail _ h => cases h
      · exact N' q (.tail _ (.tail _ (List.mem_append_right _ hq)))) nf2 ⟨cbs, c', doc, _, ctv, rcl.le (fun i b hb => getElem?_app (getElem?_app hb)), by
        rw [R.len', List.getElem?_append_left (by simp), List.getElem?_append_right (Nat.le_refl _), Nat.sub_self]; rfl, rfl⟩
  have rv : RV (as0 ++ bs ++ [c'] ++ [fo]) (.obj (σ.objs.length + 1)) (.ref fo) := ⟨fo, by
    have e : (as0 ++ bs ++ [c']).length = σ.objs.length + 1 := by rw [List.length_append, ← R.len']; rfl
    rw [← e, List.getElem?_append_right (Nat.le_refl _), Nat.sub_self]; rfl, rfl⟩
  rw [← henv]
  have e5 : (σ.objs.set it (.tab (pos :: ps)) ++ [AO.code qual] ++ [AO.fn ⟨name, qual, params, body, scope, xs, rest⟩ cl σ.objs.length])[ic]? = some (.cell u) := by
    have hi := (List.getElem?_eq_some_iff.mp ho).1
    rw [List.getElem?_append_left (by simp; omega), List.getElem?_append_left (by simpa using hi), List.getElem?_set_ne (Ne.symm hne)]
    exact ho
  refine store_cell ok R3 rv hl e5 hk fun os' s' R' => ?_
  rw [List.append_assoc, List.append_assoc] at R'
  rw [List.append_assoc] at R'
  exact hq _ _ _ _ _ rfl R'
end
abbrev pw : Program := PySem.Challenge.pw_im0095_03
noncomputable def topG (ok : Thread → Bool) (st : SharedT → Thread → Option (SharedT × Thread)) : Nat → SharedT → Thread → Option SharedT
  | 0, _, _ => none
  | n + 1, s, t => match through t with
    | true => some s
    | false => match ok t with
      | false => none
      | true => match st s t with
        | some (s', t') => topG ok st n s' t'
        | none => none
noncomputable def goG (ok : Thread → Bool) (st : SharedT → Thread → Option (SharedT × Thread)) : Nat → SharedT → Thread → Option (SharedT × Thread)
  | 0, s, t => some (s, t)
  | n + 1, s, t => match through t with
    | true => none
    | false => match ok t with
      | false => none
      | true => match st s t with
        | some (s', t') => goG ok st n s' t'
        | none => none
noncomputable def segG (ok : Thread → Bool) (st : SharedT → Thread → Option (SharedT × Thread)) (b : Nat) : Nat → SharedT → Thread → Option (Flow × SharedT × Code × Pos)
  | 0, _, _ => none
  | n + 1, s, t => match endAt b t with
    | some f => some (f, s, t.code, t.pos)
    | none => match ok t with
      | false => none
      | true => match st s t with
        | some (s', t') => segG ok st b n s' t'
        | none => none
section
variable {tb : String → Option Builtin} {p : Program} {w : World} {n₀ : Nat} {ann : Option Value}
theorem topG_of : ∀ {n : Nat} {s s' : SharedT} {t : Thread}, topG (stepOk n₀ ann) (stepT (denote tb) p w) n s t = some s' → topRun tb p w n₀ ann n s.abs t = some s'.abs
  | 0, _, _, _, h => by cases h
  | n + 1, s, s', t, h => by
    unfold topG at h
    unfold topRun
    cases he : through t with
    | true => rw [he] at h; cases h; rfl
    | false =>
      rw [he] at h
      cases hk : stepOk n₀ ann t with
      | false => rw [hk] at h; cases h
      | true =>
        rw [hk] at h
        cases hs : stepT (denote tb) p w s t with
        | none => rw [hs] at h; cases h
        | some r => obtain ⟨s₂, t₂⟩ := r; rw [hs] at h; rw [stepT_spec hs]; exact topG_of h
theorem goG_of : ∀ {n : Nat} {s s' : SharedT} {t t' : Thread}, goG (stepOk n₀ ann) (stepT (denote tb) p w) n s t = some (s', t') → topGo tb p w n₀ ann n s.abs t = some (s'.abs, t')
  | 0, _, _, _, _, h => by cases h; rfl
  | n + 1, s, s', t, t', h => by
    unfold goG at h
    unfold topGo
    cases he : through t with
    | true => rw [he] at h; cases h
    | false =>
      rw [he] at h
      cases hk : stepOk n₀ ann t with
      | false => rw [hk] at h; cases h
      | true =>
        rw [hk] at h
        cases hs : stepT (denote tb) p w s t with
        | none => rw [hs] at h; cases h
        | some r => obtain ⟨s₂, t₂⟩ := r; rw [hs] at h; rw [stepT_spec hs]; exact goG_of h
theorem segG_eq (b : Nat) : ∀ (n : Nat) (s : SharedT) (t : Thread), segG (stepOk n₀ ann) (stepT (denote tb) p w) b n s t = segRunT tb p w n₀ ann b n s t
  | 0, _, _ => rfl
  | n + 1, s, t => by
    unfold segG segRunT
    cases endAt b t with
    | some f => rfl
    | none => cases stepOk n₀ ann t with
      | false => rfl
      | true => cases stepT (denote tb) p w s t with
        | none => rfl
        | some r => exact segG_eq b n r.1 r.2
theorem body_app {env : Env} {B : List Frame} (hB : splitAtGen B = none) {n N : Nat} {s s' r : Shared} {l rest : List Stmt} {c : Code} {pos p' : Pos} (h : segRun tb p w n₀ ann B.length n s (piecesOf l env c pos B) = some (.next, s', c, p'))
    (k : topRun tb p w n₀ ann N s' (restOf rest env c p' B) = some r) : topRun tb p w n₀ ann (n + N) s (restOf (l ++ rest) env c pos B) = some r := by
  obtain ⟨a, ha, hN⟩ := seg_top (res := id) (K' := fun f => match f with | .next => (execs rest env).wrap doneF (leaveH env) id id | f => doneF f) (H' := leaveH env) (B := B) hB n s (piecesOf l env c pos B)
    ⟨(execs l env).wrap (fun f => match f with | .next => (execs rest env).wrap doneF (leaveH env) id id | f => doneF f) (leaveH env) id id, c, pos, B⟩ _ _ _ _ ⟨rfl, rfl, .inl ⟨rfl, rfl, _, rfl, rfl⟩⟩ h
  obtain rfl : a = .next := ha
  have := hN N r k
  unfold restOf
  rw [execs_app_wrap]
  exact this
theorem body_start {env : Env} {B : List Frame} (hB : splitAtGen B = none) {n N : Nat} {s s' r : Shared} {b : List Stmt} {c : Code} {pos p' : Pos} (h : segRun tb p w n₀ ann B.length n s (blockOf b env c pos B) = some (.next, s', c, p'))
    (k : topRun tb p w n₀ ann N s' (restOf b env c p' B) = some r) : topRun tb p w n₀ ann (n + N) s ⟨denote tb (.body b env), c, pos, B⟩ = some r := by
  obtain ⟨a, ha, hN⟩ := seg_top (res := fun _ : Unit => Flow.next) (K' := fun _ => (execs b env).wrap doneF (leaveH env) id id) (H' := Sem.raise) (B := B) hB n s (blockOf b env c pos B)
    ⟨(blockStart b env).wrap (fun _ => (execs b env).wrap doneF (leaveH env) id id) .raise id id, c, pos, B⟩ _ _ _ _ ⟨rfl, rfl, .inl ⟨rfl, rfl, _, rfl, rfl⟩⟩ h
  rw [body_wrap]
  exact hN N r k
end
noncomputable def dn : Code → Sem Fin := PySem.W.Fast.tw11892475500146522536 PySem.W.Fast.tw14364793385576792824
noncomputable def okT : Thread → Bool := PySem.W.Fast.tw6613529449190102663 11 (some (.ref 6))
noncomputable def stT (w : World) : SharedT → Thread → Option (SharedT × Thread) := PySem.W.Fast.tw10156331382660048174 dn pw w
theorem dn_eq : denote treeTable = dn := by unfold dn; rw [PySem.W.Fast.te11892475500146522536, PySem.W.Fast.te14364793385576792824]
theorem okT_eq : stepOk 11 (some (.ref 6)) = okT := by unfold okT; rw [PySem.W.Fast.te6613529449190102663]
theorem stT_eq (w : World) : stepT (denote treeTable) pw w = stT w := by unfold stT; rw [PySem.W.Fast.te10156331382660048174, dn_eq]
noncomputable def every2 : List Obj → List Obj
  | [] => []
  | [a] => [a]
  | a :: _ :: r => a :: every2 r
noncomputable def btL : Nat → List Obj → BT
  | 0, _ => .nil
  | _ + 1, [] => .nil
  | k + 1, o :: r => .node o (btL k (every2 r)) (btL k (every2 r.tail))
noncomputable def S0 (w : World) (os : OsState) : SharedT := ⟨btL 8 (boot_heap w.params).objs.toList, 11, (boot_heap w.params).life, #[], boot_drawn, boot_toks, os⟩
theorem S0_abs (w : World) (os : OsState) : (S0 w os).abs = ⟨boot_heap w.params, #[], boot_drawn, boot_toks, os⟩ := by kernel_rfl
noncomputable def Pd (w : World) (os : OsState) : SharedT × Thread := (goG okT (stT w) 109 (S0 w os) (topStub pw)).getD (S0 w os, topStub pw)
noncomputable def Bc (w : World) (os : OsState) : List Frame := (Pd w os).2.stack
noncomputable def clsBody : List Stmt := match pw.main.body with
  | _ :: _ :: .ClassDef _ _ _ b _ _ _ _ _ _ _ :: _ => b
  | _ => []
noncomputable def clsScope : Scope := match pw.main.body with
  | _ :: _ :: .ClassDef _ _ _ _ _ _ sc _ _ _ _ :: _ => sc
  | _ => default
noncomputable def clsPos : Pos := match pw.main.body with
  | _ :: _ :: .ClassDef _ _ _ _ _ _ _ _ _ _ p :: _ => p
  | _ => default
noncomputable def envC : Env := { scope := clsScope, locals := 24, globals := 3, cells := [], qual := Str.ofString "MPU.", func := none, code := .ref 27, frame := some 28, builtins := 0 }
noncomputable def codeC : Code := .body clsBody envC
theorem pro (w : World) (os : OsState) : goG okT (stT w) 109 (S0 w os) (topStub pw) = some ((Pd w os).1, ⟨dn (.body clsBody envC), codeC, clsPos, Bc w os⟩) := by kernel_rfl
theorem Bc_split (w : World) (os : OsState) : splitAtGen (Bc w os) = none := by kernel_rfl
theorem Bc_len (w : World) (os : OsState) : (Bc w os).length = 2 := by kernel_rfl
section
open TablesWhole
theorem wSs_cons {α : Type} (A : Alg α) (top : Scope) (cx : TablesWhole.Ctx) (sc : Scope) (s : Stmt) (l : List Stmt) : wSs A top cx sc (s :: l) = A.both (wS A top cx sc s) (wSs A top cx sc l) := by kernel_rfl
theorem wEs_cons {α : Type} (A : Alg α) (cx : TablesWhole.Ctx) (sc : Scope) (h : Option Scope) (s : Expr) (l : List Expr) : wEs A cx sc h (s :: l) = A.both (wE A cx sc h s) (wEs A cx sc h l) := by kernel_rfl
theorem wS_assign {α : Type} (A : Alg α) (top : Scope) (cx : TablesWhole.Ctx) (sc : Scope) (ts : List Expr) (v : Expr) (p : Pos) : wS A top cx sc (.Assign ts v p) = A.both (wE A cx sc none v) (wTs A cx sc none ts) := by kernel_rfl
theorem wE_list {α : Type} (A : Alg α) (cx : TablesWhole.Ctx) (sc : Scope) (h : Option Scope) (es : List Expr) (p : Pos) : wE A cx sc h (.List es p) = wEs A cx sc h es := by kernel_rfl
theorem wE_name (cx : TablesWhole.Ctx) (sc : Scope) (h : Option Scope) (id : Str) (p : Pos) (hs : (id == Str.ofString "super") = false) : wE holds cx sc h (.Name id p) = sc.bears id := by
  have e : wE holds cx sc h (.Name id p) = if (id == Str.ofString "super" && sc.functionLike) = true then (sc.bears id && sc.bears (Str.ofString "__class__")) else sc.bears id := by kernel_rfl
  rw [e, hs]
  rfl
theorem wss_take {α : Type} (A : Alg α) (top : Scope) (cx : TablesWhole.Ctx) (sc : Scope) (p : α → Prop) (h0 : p A.unit) (h1 : ∀ a b, p a → p b → p (A.both a b)) : ∀ (n : Nat) (l : List Stmt), (∀ s, s ∈ l.take n → p (wS A top cx sc s)) → p (wSs A top cx sc (l.drop n)) → p (wSs A top cx sc l)
  | 0, _, _, h => h
  | _ + 1, [], _, h => h
  | n + 1, s :: l, hs, h => by
    rw [wSs_cons]
    exact h1 _ _ (hs s (by rw [List.take_succ_cons]; exact List.mem_cons_self)) (wss_take A top cx sc p h0 h1 n l (fun t ht => hs t (by rw [List.take_succ_cons]; exact List.mem_cons_of_mem _ ht)) h)
theorem wss_all {top : Scope} {cx : TablesWhole.Ctx} {sc : Scope} : ∀ {l : List Stmt}, wSs holds top cx sc l = true → ∀ s ∈ l, wS holds top cx sc s = true
  | [], _, _, h => nomatch h
  | s :: l, h, t, ht => by
    rw [wSs_cons] at h
    have h := Bool.and_eq_true_iff.mp h
    rcases List.mem_cons.mp ht with rfl | ht
    · exact h.1
    · exact wss_all h.2 t ht
theorem wss_td {top : Scope} {cx : TablesWhole.Ctx} {sc : Scope} (n : Nat) {l : List Stmt} (h1 : wSs holds top cx sc (l.take n) = true) (h2 : wSs holds top cx sc (l.drop n) = true) : wSs holds top cx sc l = true :=
  wss_take holds top cx sc (· = true) rfl (fun _ _ a b => Bool.and_eq_true_iff.mpr ⟨a, b⟩) n l (wss_all h1) h2
theorem wsg_all {top : Scope} {cx : TablesWhole.Ctx} {sc : Scope} : ∀ {l : List Stmt}, wSs gather top cx sc l = [] → ∀ s ∈ l, wS gather top cx sc s = []
  | [], _, _, h => nomatch h
  | s :: l, h, t, ht => by
    rw [wSs_cons] at h
    have h := List.append_eq_nil_iff.mp h
    rcases List.mem_cons.mp ht with rfl | ht
    · exact h.1
    · exact wsg_all h.2 t ht
theorem wsg_td {top : Scope} {cx : TablesWhole.Ctx} {sc : Scope} (n : Nat) {l : List Stmt} (h1 : wSs gather top cx sc (l.take n) = []) (h2 : wSs gather top cx sc (l.drop n) = []) : wSs gather top cx sc l = [] :=
  wss_take gather top cx sc (· = []) rfl (fun _ _ a b => List.append_eq_nil_iff.mpr ⟨a, b⟩) n l (wsg_all h1) h2
theorem tw_of {p : Program} {cx : TablesWhole.Ctx} (hg : wSs gather p.main.scope ⟨p.main.scope, [], [], [], none⟩ p.main.scope p.main.body = []) (hc : cx = ⟨p.main.scope, [], [], [], none⟩) (ht : noTwice p.main.scope = true) (hs : wSs holds p.main.scope cx p.main.scope p.main.body = true) (hm : p.modules = []) (hp : p.parses = []) (hh : p.harvested = []) : p.tablesWhole = true := by
  subst hc
  show (TablesWhole.wModule holds p.main && (Alg.all holds (p.modules.map fun (_, _, m) => wModule holds m) && (Alg.all holds (p.parses.map (wParse holds)) && (Alg.all holds (p.harvested.map (wParse holds)) && true)))) = true
  rw [hm, hp, hh]
  have e : wModule holds p.main = true := by
    unfold wModule
    rw [hg]
    show (true && (noTwice p.main.scope && (wSs holds p.main.scope ⟨p.main.scope, [], [], [], none⟩ p.main.scope p.main.body && true))) = true
    rw [ht, hs]
    rfl
  rw [e]
  rfl
theorem wS_cls {α : Type} (A : Alg α) (top : Scope) (cx : TablesWhole.Ctx) (sc : Scope) (n : Str) (b : List Expr) (k : List Keyword) (body : List Stmt) (ds : List Expr) (own : Scope) (bind : Str) (x : List Str) (pos : Pos) : wS A top cx sc (.ClassDef n b k body ds [] own none bind x pos) = A.both (wClassHead A cx sc b k ds [] own none bind pos (declSs true body)) (wSs A top ⟨own, declSs false body, declSs true body, cx.encl, none⟩ own body) := by kernel_rfl
theorem all_c {a : Bool} {l : List Bool} (h : a = true) (t : Alg.all holds l = true) : Alg.all holds (a :: l) = true := Bool.and_eq_true_iff.mpr ⟨h, t⟩
theorem chk {w : String} {sc : Scope} {n : Str} {b : Bool} (h : b = true) : holds.check w sc n b = true := h
theorem all_n : Alg.all holds [] = true := rfl
/-- no name twice -/
noncomputable def hasS (x : Str) : List (Str × NameKind) → Bool
  | [] => false
  | (y, _) :: r => match Fast.sEq y x with
    | true => true
    | false => hasS x r
noncomputable def ndS : List (Str × NameKind) → Bool
  | [] => true
  | (y, _) :: r => match hasS y r with
    | true => false
    | false => ndS r
theorem hasS_of {x : Str} : ∀ {l : List (Str × NameKind)}, hasS x l = true → (l.lookup x).isSome = true
  | [], h => nomatch h
  | (y, k) :: r, h => by
    rw [List.lookup_cons]
    cases e : x == y with
    | true => rfl
    | false =>
      refine hasS_of (l := r) ?_
      unfold hasS at h
      cases q : Fast.sEq y x with
      | true => have := Fast.sEq_iff.mp q; subst this; simp at e
      | false => rw [q] at h; exact h
theorem hasS_no {x : Str} : ∀ {l : List (Str × NameKind)}, hasS x l = false → ∀ p ∈ l, p.1 ≠ x
  | [], _, _, hp => nomatch hp
  | (y, k) :: r, h, p, hp => by
    unfold hasS at h
    cases q : Fast.sEq y x with
    | true => rw [q] at h; exact nomatch h
    | false =>
      rw [q] at h
      rcases List.mem_cons.mp hp with rfl | hp
      · intro e
        rw [Fast.sEq_iff.mpr e] at q
        exact nomatch q
      · exact hasS_no h p hp
theorem ndS_f : ∀ {l : List (Str × NameKind)}, ndS l = true → ∀ p ∈ l, l.filter (·.1 == p.1) = [p]
  | [], _, _, hp => nomatch hp
  | (y, k) :: r, h, p, hp => by
    unfold ndS at h
    cases q : hasS y r with
    | true => rw [q] at h; exact nomatch h
    | false =>
      rw [q] at h
      have hn := hasS_no q
      rcases List.mem_cons.mp hp with rfl | hp
      · rw [List.filter_cons_of_pos (by simp)]
        rw [List.filter_eq_nil_iff.mpr fun a ha => by simpa using hn a ha]
      · rw [List.filter_cons_of_neg (by simpa using fun e => hn p hp e.symm)]
        exact ndS_f h p hp
theorem noTwice_of {sc : Scope} (h : ndS sc.names = true) : noTwice sc = true := by
  unfold noTwice
  rw [List.all_eq_true]
  intro p hp
  show (match sc.names.filter (·.1 == p.1) with | [_] => true | [(_, a), (_, b)] => sc.kind == .class && a != .free && b == .free | _ => false) = true
  rw [ndS_f h p hp]
/-- a list of names -/
noncomputable def namesF (sc : Scope) : List Expr → Bool
  | [] => true
  | .Name id _ :: r => match Fast.sEq id (Str.ofString "super") with
    | true => false
    | false => match hasS id sc.names with
      | true => namesF sc r
      | false => false
  | _ :: _ => false
theorem namesF_of {cx : TablesWhole.Ctx} {sc : Scope} {hold : Option Scope} : ∀ {l : List Expr}, namesF sc l = true → wEs holds cx sc hold l = true
  | [], _ => rfl
  | e :: r, h => by
    cases e with
    | Name id pos =>
      unfold namesF at h
      cases q : Fast.sEq id (Str.ofString "super") with
      | true => rw [q] at h; exact nomatch h
      | false =>
        rw [q] at h
        dsimp only at h
        cases q2 : hasS id sc.names with
        | false => rw [q2] at h; exact nomatch h
        | true =>
          rw [q2] at h
          rw [wEs_cons]
          refine Bool.and_eq_true_iff.mpr ⟨?_, namesF_of h⟩
          rw [wE_name _ _ _ _ _ (by rw [beq_eq_false_iff_ne]; intro e; rw [Fast.sEq_iff.mpr e] at q; exact nomatch q)]
          exact hasS_of q2
    | _ => exact nomatch h
theorem wS_asg {top : Scope} {cx : TablesWhole.Ctx} {sc : Scope} {ts es : List Expr} {p p2 : Pos} (h1 : wEs holds cx sc none es = true) (h2 : wTs holds cx sc none ts = true) : wS holds top cx sc (.Assign ts (.List es p2) p) = true := by
  rw [wS_assign, wE_list]
  exact Bool.and_eq_true_iff.mpr ⟨h1, h2⟩
theorem wss_st {top : Scope} {cx : TablesWhole.Ctx} {sc : Scope} {l : List Stmt} (a b : Nat) (e : a + 16 = b) (h1 : wSs holds top cx sc ((l.drop a).take 16) = true) (h2 : wSs holds top cx sc (l.drop b) = true) : wSs holds top cx sc (l.drop a) = true := by
  refine wss_td 16 h1 ?_
  rw [List.drop_drop, e]
  exact h2
theorem wsg_st {top : Scope} {cx : TablesWhole.Ctx} {sc : Scope} {l : List Stmt} (a b : Nat) (e : a + 16 = b) (h1 : wSs gather top cx sc ((l.drop a).take 16) = []) (h2 : wSs gather top cx sc (l.drop b) = []) : wSs gather top cx sc (l.drop a) = [] := by
  refine wsg_td 16 h1 ?_
  rw [List.drop_drop, e]
  exact h2
theorem wss_s6 {top : Scope} {cx : TablesWhole.Ctx} {sc : Scope} {l : List Stmt} (a b : Nat) (e : a + 6 = b) (h1 : wSs holds top cx sc ((l.drop a).take 6) = true) (h2 : wSs holds top cx sc (l.drop b) = true) : wSs holds top cx sc (l.drop a) = true := by
  refine wss_td 6 h1 ?_
  rw [List.drop_drop, e]
  exact h2
theorem wss_0 {top : Scope} {cx : TablesWhole.Ctx} {sc : Scope} {l : List Stmt} (h : wSs holds top cx sc (l.drop 0) = true) : wSs holds top cx sc l = true := h
theorem wsg_0 {top : Scope} {cx : TablesWhole.Ctx} {sc : Scope} {l : List Stmt} (h : wSs gather top cx sc (l.drop 0) = []) : wSs gather top cx sc l = [] := h
theorem wS_clsH {top : Scope} {cx cxc : TablesWhole.Ctx} {sc : Scope} {n : Str} {b : List Expr} {k : List Keyword} {body : List Stmt} {ds : List Expr} {own : Scope} {bind : Str} {x : List Str} {pos : Pos} (he : cx.encl = []) (hc : cxc = ⟨own, declSs false body, declSs true body, [], none⟩) (h1 : wClassHead holds cx sc b k ds [] own none bind pos (declSs true body) = true) (h2 : wSs holds top cxc own body = true) : wS holds top cx sc (.ClassDef n b k body ds [] own none bind x pos) = true := by
  subst hc
  rw [wS_cls, he]
  exact Bool.and_eq_true_iff.mpr ⟨h1, h2⟩
theorem wS_clsG {top : Scope} {cx cxc : TablesWhole.Ctx} {sc : Scope} {n : Str} {b : List Expr} {k : List Keyword} {body : List Stmt} {ds : List Expr} {own : Scope} {bind : Str} {x : List Str} {pos : Pos} (he : cx.encl = []) (hc : cxc = ⟨own, declSs false body, declSs true body, [], none⟩) (h1 : wClassHead gather cx sc b k ds [] own none bind pos (declSs true body) = []) (h2 : wSs gather top cxc own body = []) : wS gather top cx sc (.ClassDef n b k body ds [] own none bind x pos) = [] := by
  subst hc
  rw [wS_cls, he]
  exact List.append_eq_nil_iff.mpr ⟨h1, h2⟩
theorem wss_cons {top : Scope} {cx : TablesWhole.Ctx} {sc : Scope} {s : Stmt} {l : List Stmt} (h1 : wS holds top cx sc s = true) (h2 : wSs holds top cx sc l = true) : wSs holds top cx sc (s :: l) = true := by
  rw [wSs_cons]
  exact Bool.and_eq_true_iff.mpr ⟨h1, h2⟩
theorem wsg_cons {top : Scope} {cx : TablesWhole.Ctx} {sc : Scope} {s : Stmt} {l : List Stmt} (h1 : wS gather top cx sc s = []) (h2 : wSs gather top cx sc l = []) : wSs gather top cx sc (s :: l) = [] := by
  rw [wSs_cons]
  exact List.append_eq_nil_iff.mpr ⟨h1, h2⟩
end
noncomputable def cxM : TablesWhole.Ctx := ⟨pw.main.scope, [], [], [], none⟩
noncomputable def cxC : TablesWhole.Ctx := ⟨clsScope, TablesWhole.declSs false clsBody, TablesWhole.declSs true clsBody, [], none⟩
noncomputable def clsSt : Stmt := match pw.main.body with
  | _ :: _ :: s :: _ => s
  | _ => .Pass default
noncomputable def cdN : Stmt → Str
  | .ClassDef n .. => n
  | _ => Str.ofString ""
noncomputable def cdB : Stmt → List Expr
  | .ClassDef _ b .. => b
  | _ => []
noncomputable def cdK : Stmt → List Keyword
  | .ClassDef _ _ k .. => k
  | _ => []
noncomputable def cdD : Stmt → List Expr
  | .ClassDef _ _ _ _ d .. => d
  | _ => []
noncomputable def cdBind : Stmt → Str
  | .ClassDef _ _ _ _ _ _ _ _ b _ _ => b
  | _ => Str.ofString ""
noncomputable def cdX (s : Stmt) : List Str := match s with
  | .ClassDef _ _ _ _ _ _ _ _ _ x _ => x
  | _ => []
open TablesWhole in
theorem wch_of {cx : TablesWhole.Ctx} {sc : Scope} {b : List Expr} {k : List Keyword} {ds : List Expr} {own : Scope} {bind : Str} {pos : Pos} {gl : List Str} (h1 : wEs holds cx sc none ds = true) (h2 : Alg.bind holds cx sc bind (some pos) = true) (h3 : Alg.enterFrom holds cx.encl none gl sc own = true) (h4 : wEs holds cx sc none b = true) (h5 : wKs holds cx sc none k = true) : wClassHead holds cx sc b k ds [] own none bind pos gl = true := by
  unfold wClassHead
  exact all_c h1 (all_c h2 (all_c (all_c h3 (all_c h4 (all_c h5 all_n))) all_n))
theorem of_stH {top : Scope} {cx : TablesWhole.Ctx} {sc : Scope} {s t : Stmt} (e : s = t) (h : TablesWhole.wS TablesWhole.holds top cx sc t = true) : TablesWhole.wS TablesWhole.holds top cx sc s = true := e ▸ h
theorem of_stG {top : Scope} {cx : TablesWhole.Ctx} {sc : Scope} {s t : Stmt} (e : s = t) (h : TablesWhole.wS TablesWhole.gather top cx sc t = []) : TablesWhole.wS TablesWhole.gather top cx sc s = [] := e ▸ h
theorem of_lH {top : Scope} {cx : TablesWhole.Ctx} {sc : Scope} {s t : List Stmt} (e : s = t) (h : TablesWhole.wSs TablesWhole.holds top cx sc t = true) : TablesWhole.wSs TablesWhole.holds top cx sc s = true := e ▸ h
theorem of_lG {top : Scope} {cx : TablesWhole.Ctx} {sc : Scope} {s t : List Stmt} (e : s = t) (h : TablesWhole.wSs TablesWhole.gather top cx sc t = []) : TablesWhole.wSs TablesWhole.gather top cx sc s = [] := e ▸ h
theorem clsSt_eq : clsSt = .ClassDef (cdN clsSt) (cdB clsSt) (cdK clsSt) clsBody (cdD clsSt) [] clsScope none (cdBind clsSt) (cdX clsSt) clsPos := by kernel_rfl
noncomputable def asT : Stmt → List Expr
  | .Assign ts _ _ => ts
  | _ => []
noncomputable def asE : Stmt → List Expr
  | .Assign _ (.List es _) _ => es
  | _ => []
noncomputable def asP2 : Stmt → Pos
  | .Assign _ (.List _ p) _ => p
  | _ => default
noncomputable def asP : Stmt → Pos
  | .Assign _ _ p => p
  | _ => default
noncomputable def insSt : Stmt := match clsBody.drop 214 with
  | s :: _ => s
  | [] => .Pass default
theorem ins_eq : insSt = .Assign (asT insSt) (.List (asE insSt) (asP2 insSt)) (asP insSt) := by kernel_rfl
theorem ins_n : namesF clsScope (asE insSt) = true := by kernel_rfl
theorem ins_t : TablesWhole.wTs TablesWhole.holds cxC clsScope none (asT insSt) = true := by kernel_rfl
theorem ins_l : clsBody.drop 214 = insSt :: clsBody.drop 215 := by kernel_rfl
theorem ins_r : TablesWhole.wSs TablesWhole.holds pw.main.scope cxC clsScope (clsBody.drop 215) = true := by kernel_rfl
theorem insH : TablesWhole.wSs TablesWhole.holds pw.main.scope cxC clsScope (clsBody.drop 214) = true := of_lH ins_l (wss_cons (of_stH ins_eq (wS_asg (namesF_of ins_n) ins_t)) ins_r)
theorem tc0 : TablesWhole.wSs TablesWhole.holds pw.main.scope cxC clsScope ((clsBody.drop 0).take 16) = true := by kernel_rfl
theorem tg0 : TablesWhole.wSs TablesWhole.gather pw.main.scope cxC clsScope ((clsBody.drop 0).take 16) = [] := by kernel_rfl
theorem tc1 : TablesWhole.wSs TablesWhole.holds pw.main.scope cxC clsScope ((clsBody.drop 16).take 16) = true := by kernel_rfl
theorem tg1 : TablesWhole.wSs TablesWhole.gather pw.main.scope cxC clsScope ((clsBody.drop 16).take 16) = [] := by kernel_rfl
theorem tc2 : TablesWhole.wSs TablesWhole.holds pw.main.scope cxC clsScope ((clsBody.drop 32).take 16) = true := by kernel_rfl
theorem tg2 : TablesWhole.wSs TablesWhole.gather pw.main.scope cxC clsScope ((clsBody.drop 32).take 16) = [] := by kernel_rfl
theorem tc3 : TablesWhole.wSs TablesWhole.holds pw.main.scope cxC clsScope ((clsBody.drop 48).take 16) = true := by kernel_rfl
theorem tg3 : TablesWhole.wSs TablesWhole.gather pw.main.scope cxC clsScope ((clsBody.drop 48).take 16) = [] := by kernel_rfl
theorem tc4 : TablesWhole.wSs TablesWhole.holds pw.main.scope cxC clsScope ((clsBody.drop 64).take 16) = true := by kernel_rfl
theorem tg4 : TablesWhole.wSs TablesWhole.gather pw.main.scope cxC clsScope ((clsBody.drop 64).take 16) = [] := by kernel_rfl
theorem tc5 : TablesWhole.wSs TablesWhole.holds pw.main.scope cxC clsScope ((clsBody.drop 80).take 16) = true := by kernel_rfl
theorem tg5 : TablesWhole.wSs TablesWhole.gather pw.main.scope cxC clsScope ((clsBody.drop 80).take 16) = [] := by kernel_rfl
theorem tc6 : TablesWhole.wSs TablesWhole.holds pw.main.scope cxC clsScope ((clsBody.drop 96).take 16) = true := by kernel_rfl
theorem tg6 : TablesWhole.wSs TablesWhole.gather pw.main.scope cxC clsScope ((clsBody.drop 96).take 16) = [] := by kernel_rfl
theorem tc7 : TablesWhole.wSs TablesWhole.holds pw.main.scope cxC clsScope ((clsBody.drop 112).take 16) = true := by kernel_rfl
theorem tg7 : TablesWhole.wSs TablesWhole.gather pw.main.scope cxC clsScope ((clsBody.drop 112).take 16) = [] := by kernel_rfl
theorem tc8 : TablesWhole.wSs TablesWhole.holds pw.main.scope cxC clsScope ((clsBody.drop 128).take 16) = true := by kernel_rfl
theorem tg8 : TablesWhole.wSs TablesWhole.gather pw.main.scope cxC clsScope ((clsBody.drop 128).take 16) = [] := by kernel_rfl
theorem tc9 : TablesWhole.wSs TablesWhole.holds pw.main.scope cxC clsScope ((clsBody.drop 144).take 16) = true := by kernel_rfl
theorem tg9 : TablesWhole.wSs TablesWhole.gather pw.main.scope cxC clsScope ((clsBody.drop 144).take 16) = [] := by kernel_rfl
theorem tc10 : TablesWhole.wSs TablesWhole.holds pw.main.scope cxC clsScope ((clsBody.drop 160).take 16) = true := by kernel_rfl
theorem tg10 : TablesWhole.wSs TablesWhole.gather pw.main.scope cxC clsScope ((clsBody.drop 160).take 16) = [] := by kernel_rfl
theorem tc11 : TablesWhole.wSs TablesWhole.holds pw.main.scope cxC clsScope ((clsBody.drop 176).take 16) = true := by kernel_rfl
theorem tg11 : TablesWhole.wSs TablesWhole.gather pw.main.scope cxC clsScope ((clsBody.drop 176).take 16) = [] := by kernel_rfl
theorem tc12 : TablesWhole.wSs TablesWhole.holds pw.main.scope cxC clsScope ((clsBody.drop 192).take 16) = true := by kernel_rfl
theorem tg12 : TablesWhole.wSs TablesWhole.gather pw.main.scope cxC clsScope ((clsBody.drop 192).take 16) = [] := by kernel_rfl
theorem tcY : TablesWhole.wSs TablesWhole.holds pw.main.scope cxC clsScope ((clsBody.drop 208).take 6) = true := by kernel_rfl
theorem tcZ : TablesWhole.wSs TablesWhole.holds pw.main.scope cxC clsScope (clsBody.drop 208) = true := wss_s6 208 214 rfl tcY insH
theorem tgZ : TablesWhole.wSs TablesWhole.gather pw.main.scope cxC clsScope (clsBody.drop 208) = [] := by kernel_rfl
theorem tcA : TablesWhole.wSs TablesWhole.holds pw.main.scope cxC clsScope clsBody = true := wss_0 (wss_st 0 16 rfl tc0 (wss_st 16 32 rfl tc1 (wss_st 32 48 rfl tc2 (wss_st 48 64 rfl tc3 (wss_st 64 80 rfl tc4 (wss_st 80 96 rfl tc5 (wss_st 96 112 rfl tc6 (wss_st 112 128 rfl tc7 (wss_st 128 144 rfl tc8 (wss_st 144 160 rfl tc9 (wss_st 160 176 rfl tc10 (wss_st 176 192 rfl tc11 (wss_st 192 208 rfl tc12 tcZ)))))))))))))
theorem tgA : TablesWhole.wSs TablesWhole.gather pw.main.scope cxC clsScope clsBody = [] := wsg_0 (wsg_st 0 16 rfl tg0 (wsg_st 16 32 rfl tg1 (wsg_st 32 48 rfl tg2 (wsg_st 48 64 rfl tg3 (wsg_st 64 80 rfl tg4 (wsg_st 80 96 rfl tg5 (wsg_st 96 112 rfl tg6 (wsg_st 112 128 rfl tg7 (wsg_st 128 144 rfl tg8 (wsg_st 144 160 rfl tg9 (wsg_st 160 176 rfl tg10 (wsg_st 176 192 rfl tg11 (wsg_st 192 208 rfl tg12 tgZ)))))))))))))
theorem cls_nd : ndS clsScope.names = true := by kernel_rfl
open TablesWhole in
theorem thE : Alg.enterFrom holds cxM.encl none (declSs true clsBody) pw.main.scope clsScope = true := by
  unfold Alg.enterFrom
  refine all_c rfl (all_c (chk (noTwice_of cls_nd)) ?_)
  kernel_rfl
open TablesWhole in
theorem thd : wClassHead holds cxM pw.main.scope (cdB clsSt) (cdK clsSt) (cdD clsSt) [] clsScope none (cdBind clsSt) clsPos (declSs true clsBody) = true := by
  exact wch_of (by kernel_rfl) (by kernel_rfl) thE (by kernel_rfl) (by kernel_rfl)
theorem tgd : TablesWhole.wClassHead TablesWhole.gather cxM pw.main.scope (cdB clsSt) (cdK clsSt) (cdD clsSt) [] clsScope none (cdBind clsSt) clsPos (TablesWhole.declSs true clsBody) = [] := by kernel_rfl
theorem tcS : TablesWhole.wS TablesWhole.holds pw.main.scope cxM pw.main.scope clsSt = true := of_stH clsSt_eq (wS_clsH rfl rfl thd tcA)
theorem tgS : TablesWhole.wS TablesWhole.gather pw.main.scope cxM pw.main.scope clsSt = [] := of_stG clsSt_eq (wS_clsG rfl rfl tgd tgA)
theorem tb0 : TablesWhole.wSs TablesWhole.holds pw.main.scope cxM pw.main.scope (pw.main.body.take 2) = true := by kernel_rfl
theorem tb1 : pw.main.body.drop 2 = clsSt :: pw.main.body.drop 3 := by kernel_rfl
theorem tb2 : TablesWhole.wSs TablesWhole.holds pw.main.scope cxM pw.main.scope (pw.main.body.drop 3) = true := by kernel_rfl
theorem ta0 : TablesWhole.wSs TablesWhole.gather pw.main.scope cxM pw.main.scope (pw.main.body.take 2) = [] := by kernel_rfl
theorem ta2 : TablesWhole.wSs TablesWhole.gather pw.main.scope cxM pw.main.scope (pw.main.body.drop 3) = [] := by kernel_rfl
theorem tbA : TablesWhole.wSs TablesWhole.holds pw.main.scope cxM pw.main.scope pw.main.body = true := wss_td 2 tb0 (of_lH tb1 (wss_cons tcS tb2))
theorem taA : TablesWhole.wSs TablesWhole.gather pw.main.scope cxM pw.main.scope pw.main.body = [] := wsg_td 2 ta0 (of_lG tb1 (wsg_cons tgS ta2))
theorem tnt : TablesWhole.noTwice pw.main.scope = true := by kernel_rfl
theorem tabs : pw.tablesWhole = true := tw_of taA rfl tnt tbA rfl rfl rfl
theorem looks_of {p : Program} (h1 : sreFenced p.main = true) (h2 : ((moduleNames p.main.body).isEmpty || lookedIntoSs (moduleNames p.main.body) p.main.body) = true) (h3 : namesResolve p = true) (h4 : p.boundNames.all (fun n => !worldNames.contains n) = true) (h5 : (importedModules p.main.body).all cThrough.contains = true)
    (h6 : (["vars", "dir", "locals"] : List Str).filter (readsOut p p.main.body) = []) (h7 : noRoadLSs { strict := false, foot := none, bare := [] } p.main.body = true) (h8 : (namesMeet p p.main.body fun _ n => attrL n) = true) : looksOpen p = true := by
  unfold looksOpen
  rw [h1, h2, h3, h4, h5, h6, h8]
  show (true && noRoadLSs _ _ && true) = true
  rw [show noRoadLSs { strict := !true, foot := none, bare := [] } p.main.body = true from h7]
  rfl
theorem sa1 : sreFenced pw.main = true := by kernel_rfl
theorem sa2 : ((moduleNames pw.main.body).isEmpty || lookedIntoSs (moduleNames pw.main.body) pw.main.body) = true := by kernel_rfl
theorem sa3 : namesResolve pw = true := by kernel_rfl
theorem sa4 : pw.boundNames.all (fun n => !worldNames.contains n) = true := by kernel_rfl
theorem sa5 : (importedModules pw.main.body).all cThrough.contains = true := by kernel_rfl
theorem sa6 : (["vars", "dir", "locals"] : List Str).filter (readsOut pw pw.main.body) = [] := by kernel_rfl
theorem sa7 : noRoadLSs { strict := false, foot := none, bare := [] } pw.main.body = true := by kernel_rfl
theorem sa8 : (namesMeet pw pw.main.body fun _ n => attrL n) = true := by kernel_rfl
theorem sa9 : looksOpen pw = true := looks_of sa1 sa2 sa3 sa4 sa5 sa6 sa7 sa8
theorem part_of {r : OpenRow} (h : looksOpen r.prog = true) (h2 : (r.loose.isEmpty && r.makers.isEmpty && (r.records.isEmpty && (r.raises.isEmpty && (r.mutates.isEmpty && (r.within.isEmpty && r.same.isNone)))) && (r.toRowW.solid && (r.pre.litsOk && r.post.litsOk))) = true) : r.partSaid = true := by
  simp only [Bool.and_eq_true, List.isEmpty_iff, Option.isNone_iff_eq_none] at h2
  obtain ⟨⟨⟨a1, a2⟩, a3, a4, a5, a6, a7⟩, a8, a9, a10⟩ := h2
  unfold OpenRow.partSaid
  rw [h, a8, a9, a10, a1, a2, a3, a4, a5, a6, a7]
  rfl
theorem sb1 : (PySem.Challenge.rw_im0095_03.row.loose.isEmpty && PySem.Challenge.rw_im0095_03.row.makers.isEmpty && (PySem.Challenge.rw_im0095_03.row.records.isEmpty && (PySem.Challenge.rw_im0095_03.row.raises.isEmpty && (PySem.Challenge.rw_im0095_03.row.mutates.isEmpty && (PySem.Challenge.rw_im0095_03.row.within.isEmpty && PySem.Challenge.rw_im0095_03.row.same.isNone)))) && (PySem.Challenge.rw_im0095_03.row.toRowW.solid && (PySem.Challenge.rw_im0095_03.row.pre.litsOk && PySem.Challenge.rw_im0095_03.row.post.litsOk))) = true := by kernel_rfl
theorem sb2 : PySem.Challenge.rw_im0095_03.row.prog.boundNames.contains PySem.Challenge.rw_im0095_03.row.name = true := by kernel_rfl
theorem sb3 : (!startupNames.contains PySem.Challenge.rw_im0095_03.row.name) = true := by kernel_rfl
theorem well_of {r : OpenRow} (h : r.partSaid = true) (h2 : r.prog.boundNames.contains r.name = true) (h3 : (!startupNames.contains r.name) = true) : r.wellSaid = true := by
  unfold OpenRow.wellSaid
  rw [h, h2, h3]
  rfl
theorem sd0 : PySem.Challenge.rw_im0095_03.row.wellSaid = true := well_of (part_of sa9 sb1) sb2 sb3
theorem sd1 : decide (PySem.Challenge.rw_im0095_03.foot ≤ (behindTheImports PySem.Challenge.rw_im0095_03.prog).length) = true := by kernel_rfl
theorem sd2 : PySem.Challenge.rw_im0095_03.footing.all footLine = true := by kernel_rfl
theorem sd3 : noClassBlock PySem.Challenge.rw_im0095_03.prog PySem.Challenge.rw_im0095_03.footing = true := by kernel_rfl
theorem sd4 : Option.all (fun n => decide (63 ≤ n)) PySem.Challenge.rw_im0095_03.most = true := by kernel_rfl
theorem sd5 : Option.all (fun n => decide (2 ^ 63 ≤ n)) PySem.Challenge.rw_im0095_03.bound = true := by kernel_rfl
theorem sd6 : noRoadLSs { strict := true, foot := some PySem.Challenge.rw_im0095_03.bound', writes := PySem.Challenge.rw_im0095_03.writes, may := PySem.Challenge.rw_im0095_03.may } PySem.Challenge.rw_im0095_03.footing = true := by kernel_rfl
theorem sd7 : defStands PySem.Challenge.rw_im0095_03.about PySem.Challenge.rw_im0095_03.above = true := by kernel_rfl
theorem sd8 : PySem.Challenge.rw_im0095_03.namesIt = true := by kernel_rfl
theorem sd9 : ([Str.ofString "type", Str.ofString "isinstance", Str.ofString "issubclass", Str.ofString "getattr", Str.ofString "hasattr"].all fun n => PySem.Challenge.rw_im0095_03.about != [n]) = true := by kernel_rfl
theorem sd10 : (PySem.Challenge.rw_im0095_03.bound'.all fun n => !builtinNamed n || PySem.Challenge.rw_im0095_03.about == [n] || !PySem.Challenge.rw_im0095_03.reads n) = true := by kernel_rfl
theorem sd11 : (!PySem.Challenge.rw_im0095_03.writes || (List.flatMap importedNames PySem.Challenge.rw_im0095_03.prog.main.body).all fun n => !PySem.Challenge.rw_im0095_03.reads n) = true := by kernel_rfl
theorem sd12 : ((List.flatMap importedNames PySem.Challenge.rw_im0095_03.prog.main.body).all fun n => !PySem.Challenge.rw_im0095_03.reads n || (drawsOf n PySem.Challenge.rw_im0095_03.prog.main.body).all fun mn => mn.snd != Str.ofString "attrgetter" && mn.snd != Str.ofString "methodcaller") = true := by kernel_rfl
theorem sd13 : (namesMeet PySem.Challenge.rw_im0095_03.prog PySem.Challenge.rw_im0095_03.footing fun sc n => (![Str.ofString "type", Str.ofString "isinstance", Str.ofString "issubclass", Str.ofString "getattr", Str.ofString "hasattr"].contains n || List.lookup n sc.names == some NameKind.globalImplicit) && (PySem.Challenge.rw_im0095_03.may != some n || sc.kind == ScopeKind.module || List.lookup n sc.names == some NameKind.globalImplicit)) = true := by kernel_rfl
theorem sd14 : PySem.Challenge.rw_im0095_03.own.contains PySem.Challenge.rw_im0095_03.name = true := by kernel_rfl
theorem sd15 : (PySem.Challenge.rw_im0095_03.own.eraseDups.length == PySem.Challenge.rw_im0095_03.own.length) = true := by kernel_rfl
theorem sd16 : (PySem.Challenge.rw_im0095_03.own.all fun n => !builtinNamed n) = true := by kernel_rfl
theorem sd17 : (namesMeet PySem.Challenge.rw_im0095_03.prog PySem.Challenge.rw_im0095_03.above fun _ n => !PySem.Challenge.rw_im0095_03.own.contains n) = true := by kernel_rfl
theorem sd18 : (namesMeet PySem.Challenge.rw_im0095_03.prog PySem.Challenge.rw_im0095_03.footing fun sc n => sc.kind == ScopeKind.module || List.lookup n sc.names != some NameKind.globalExplicit) = true := by kernel_rfl
theorem said : OpenLaw.wellSaid PySem.Challenge.rw_im0095_03 = true := by
  unfold OpenLaw.wellSaid
  simp only [Bool.and_eq_true]
  exact ⟨⟨⟨⟨⟨⟨⟨⟨⟨⟨⟨⟨⟨⟨⟨⟨⟨⟨sd0, sd1⟩, sd2⟩, sd3⟩, sd4⟩, sd5⟩, sd6⟩, sd7⟩, sd8⟩, sd9⟩, sd10⟩, sd11⟩, sd12⟩, sd13⟩, sd14⟩, sd15⟩, sd16⟩, sd17⟩, sd18⟩
noncomputable def xs : List Stmt → Env → Sem Flow := PySem.W.Fast.tw12563942051412417395
theorem xs_eq : execs = xs := by unfold xs; rw [PySem.W.Fast.te12563942051412417395]
noncomputable def piecesT (l : List Stmt) (env : Env) (c : Code) (p : Pos) (B : List Frame) : Thread := ⟨(xs l env).wrap doneF deadEnd id id, c, p, B⟩
theorem piecesT_eq (l : List Stmt) (env : Env) (c : Code) (p : Pos) (B : List Frame) : piecesOf l env c p B = piecesT l env c p B := by unfold piecesT; rw [← xs_eq]
noncomputable def restT (l : List Stmt) (env : Env) (c : Code) (p : Pos) (B : List Frame) : Thread := ⟨(xs l env).wrap doneF (leaveH env) id id, c, p, B⟩
theorem restT_eq (l : List Stmt) (env : Env) (c : Code) (p : Pos) (B : List Frame) : restOf l env c p B = restT l env c p B := by unfold restT; rw [← xs_eq]; rfl
/-- the block's start and its first 15 lines (numbers) -/
noncomputable def Pb (w : World) (os : OsState) : Option (Flow × SharedT × Code × Pos) := segG okT (stT w) 2 2000 (Pd w os).1 (blockOf clsBody envC codeC clsPos (Bc w os))
noncomputable def Sb (w : World) (os : OsState) : SharedT := match Pb w os with | some r => r.2.1 | none => S0 w os
noncomputable def qb (w : World) (os : OsState) : Pos := match Pb w os with | some r => r.2.2.2 | none => default
theorem pb (w : World) (os : OsState) : Pb w os = some (.next, Sb w os, codeC, qb w os) := by kernel_rfl
noncomputable def Pn (w : World) (os : OsState) : Option (Flow × SharedT × Code × Pos) := segG okT (stT w) 2 2000 (Sb w os) (piecesT (clsBody.take 15) envC codeC (qb w os) (Bc w os))
noncomputable def Sn (w : World) (os : OsState) : SharedT := match Pn w os with | some r => r.2.1 | none => S0 w os
noncomputable def qn (w : World) (os : OsState) : Pos := match Pn w os with | some r => r.2.2.2 | none => default
theorem pn (w : World) (os : OsState) : Pn w os = some (.next, Sn w os, codeC, qn w os) := by kernel_rfl
noncomputable def strV (x : Str) (t : Tok) : Value := .str x t
noncomputable def varsOf (t : Nat) : List Str → List Value
  | [] => []
  | x :: r => .str x t :: varsOf (t + 1) r
noncomputable def tupO (l : List Value) : Obj := { cls := .type "tuple", data := .seq l.toArray }
noncomputable def noneO (l : List Value) : Obj := { cls := .none, data := .fields l.toArray }
/-- what a def makes: its objects, its rows in the class's dict and table, the next token -/
structure Made where
  objs : List Obj
  es : List DictEntry
  tab : List Value
  n : Nat
  tok : Nat
noncomputable def modV : Value := .str (Str.ofString "py65.devices.mpu6502") 194
/-- an evaluated number -/
noncomputable def frc {α : Type} (n : Nat) (f : Nat → α) : α := match n with
  | 0 => f 0
  | k + 1 => f (k + 1)
noncomputable def defMade (P : Params) (a t : Nat) : List Stmt → Made
  | .FunctionDef name args body _ _ _ scope _ _ pos :: r =>
    let d := !args.defaults.isEmpty
    frc (if d then a + 1 else a) fun a0 => frc (if d then t + 1 else t) fun t0 =>
    let vs := (scope.names.filter fun x => x.2 == .local || x.2 == .cell).map (·.1)
    let cs := (scope.names.filter fun x => x.2 == .cell).map (·.1)
    let nv := vs.length + cs.length
    let qual := Str.ofString "MPU." ++ name
    frc (a0 + 7) fun a1 => frc (t0 + (nv + 6)) fun t1 =>
    let m := defMade P a1 t1 r
    let fn : FuncData := { name := name, qualname := qual, params := args, body := .stmts body, scope := scope, globals := 0, closure := [], defaults := .none, kwdefaults := .none }
    let file := Str.ofString "/claim/cut.py"
    { objs := (if d then [tupO [.none, .int 0 t]] else []) ++
        (tupO [] :: noneO [] :: tupO (varsOf (t0 + 3) vs) :: tupO (varsOf (t0 + (vs.length + 3)) cs) :: { cls := .none, data := .func fn } ::
         { cls := .type "code", data := .fields [strV name t0, strV qual (t0 + 1), strV file (t0 + 2), .int pos.line 0, .int args.args.length 0, .int 0 0, .int 0 0, .int 3 0, .ref a0, .bool true, .int 181 0, .ref (a0 + 1), .none, .ref (a0 + 2), .ref (a0 + 3), .ref (a0 + 4), .int (t0 + (nv + 3) : Nat) 0, .int pos.line 0, strV file (t0 + (nv + 4))].toArray } ::
         { cls := .type "function", data := .func { fn with globals := 3, defaults := if d then .ref a else .none, pyModule := modV, code := .ref (a0 + 5) } } :: m.objs)
      es := ⟨PyData.keyHash P name, .str name (t0 + (nv + 5)), .ref (a0 + 6)⟩ :: m.es
      tab := .int pos.line 0 :: .int pos.col 0 :: .ref (a0 + 5) :: m.tab
      n := m.n + 1
      tok := m.tok }
  | _ => ⟨[], [], [], 0, t⟩
noncomputable def baseO (w : World) (os : OsState) (i : Nat) : Obj := ((Sn w os).tree.get i).getD default
noncomputable def esB (w : World) (os : OsState) : List DictEntry := match (baseO w os 24).data with | .dict es _ => es.toList | _ => []
noncomputable def heapL (w : World) (os : OsState) (m : Made) : List Obj :=
  ((List.range 24).map (baseO w os)) ++ ({ cls := .type "dict", data := .dict (esB w os ++ m.es).toArray (18 + m.n) } : Obj) :: baseO w os 25 :: noneO m.tab :: baseO w os 27 :: baseO w os 28 :: m.objs
noncomputable def Sk (w : World) (os : OsState) (m : Made) (n t : Nat) : SharedT := ⟨btL 20 (heapL w os m), n, (Sn w os).life, #[], boot_drawn, t, os⟩
noncomputable def defsK (w : World) (k : Nat) : Made := defMade w.params 29 238 ((clsBody.drop 15).take k)
theorem test0 (w : World) (os : OsState) : Sn w os = Sk w os (defsK w 0) 29 238 := by kernel_rfl
noncomputable def posOf : Stmt → Pos
  | .FunctionDef _ _ _ _ _ _ _ _ _ p => p
  | _ => default
noncomputable def posK (k : Nat) : Pos := match (clsBody.drop (14 + k)).head? with | some s => posOf s | none => default
noncomputable def Tf (w : World) (os : OsState) : Thread := restT (clsBody.drop 214) envC codeC (posK 199) (Bc w os)
noncomputable def fnRec (i : Nat) : FuncData := match (pw.main.body.drop i).head? with
  | some (.FunctionDef name args body _ _ _ scope _ _ _) => { name := name, qualname := name, params := args, body := .stmts body, scope := scope, globals := 0, closure := [], defaults := .none, kwdefaults := .none }
  | _ => default
noncomputable def entS (P : Params) (x : String) (t : Tok) (v : Value) : DictEntry := ⟨PyData.keyHash P (Str.ofString x), .str (Str.ofString x) t, v⟩
noncomputable def esAll (P : Params) : List DictEntry := [entS P "__module__" 203 (.str (Str.ofString "py65.devices.mpu6502") 194), entS P "__qualname__" 205 (.str (Str.ofString "MPU") 204), entS P "__firstlineno__" 207 (.int 5 206), entS P "RESET" 209 (.int 65532 208), entS P "NMI" 211 (.int 65530 210), entS P "IRQ" 213 (.int 65534 212), entS P "NEGATIVE" 215 (.int 128 214), entS P "OVERFLOW" 217 (.int 64 216), entS P "UNUSED" 219 (.int 32 218), entS P "BREAK" 221 (.int 16 220), entS P "DECIMAL" 223 (.int 8 222), entS P "INTERRUPT" 225 (.int 4 224), entS P "ZERO" 227 (.int 2 226), entS P "CARRY" 229 (.int 1 228), entS P "BYTE_WIDTH" 231 (.int 8 230), entS P "BYTE_FORMAT" 233 (.str (Str.ofString "%02x") 232), entS P "ADDR_WIDTH" 235 (.int 16 234), entS P "ADDR_FORMAT" 237 (.str (Str.ofString "%04x") 236)] ++ (defMade P 29 238 ((clsBody.drop 15).take 199)).es ++ [entS P "instruct" 1710 (.ref 1423), entS P "cycletime" 1967 (.ref 1424), entS P "extracycles" 2224 (.ref 1425), entS P "__static_attributes__" 2241 (.ref 1426)]
noncomputable def dropKey (x : Str) : List DictEntry → List DictEntry
  | [] => []
  | e :: r => match e.key.isStr x with | true => r | false => e :: dropKey x r
noncomputable def esCls (P : Params) : List DictEntry := dropKey (Str.ofString "__qualname__") (esAll P)
noncomputable def lateL1423 : List Value := [.ref 372, .ref 379, .ref 365, .ref 365, .ref 365, .ref 386, .ref 393, .ref 365, .ref 400, .ref 407, .ref 414, .ref 365, .ref 365, .ref 421, .ref 428, .ref 365, .ref 435, .ref 442, .ref 365, .ref 365, .ref 365, .ref 449, .ref 456, .ref 365, .ref 463, .ref 470, .ref 365, .ref 365, .ref 365, .ref 477, .ref 484, .ref 365, .ref 491, .ref 498, .ref 365, .ref 365, .ref 505, .ref 512, .ref 519, .ref 365, .ref 526, .ref 533, .ref 540, .ref 365, .ref 547, .ref 554, .ref 561, .ref 365, .ref 568, .ref 575, .ref 365, .ref 365, .ref 365, .ref 582, .ref 589, .ref 365, .ref 596, .ref 603, .ref 365, .ref 365, .ref 365, .ref 610, .ref 617, .ref 365, .ref 624, .ref 631, .ref 365, .ref 365, .ref 365, .ref 638, .ref 645, .ref 365, .ref 652, .ref 659, .ref 666, .ref 365, .ref 673, .ref 680, .ref 687, .ref 365, .ref 694, .ref 701, .ref 365, .ref 365, .ref 365, .ref 708, .ref 715, .ref 365, .ref 722, .ref 729, .ref 365, .ref 365, .ref 365, .ref 736, .ref 743, .ref 365, .ref 750, .ref 757, .ref 365, .ref 365, .ref 365, .ref 764, .ref 771, .ref 365, .ref 778, .ref 785, .ref 792, .ref 365, .ref 799, .ref 806, .ref 813, .ref 365, .ref 820, .ref 827, .ref 365, .ref 365, .ref 365, .ref 834, .ref 841, .ref 365, .ref 848, .ref 855, .ref 365, .ref 365, .ref 365, .ref 862, .ref 869, .ref 365, .ref 365, .ref 876, .ref 365, .ref 365, .ref 883, .ref 890, .ref 897, .ref 365, .ref 904, .ref 365, .ref 911, .ref 365, .ref 918, .ref 925, .ref 932, .ref 365, .ref 939, .ref 946, .ref 365, .ref 365, .ref 953, .ref 960, .ref 967, .ref 365, .ref 974, .ref 981, .ref 988, .ref 365, .ref 365, .ref 995, .ref 365, .ref 365, .ref 1002, .ref 1009, .ref 1016, .ref 365, .ref 1023, .ref 1030, .ref 1037, .ref 365, .ref 1044, .ref 1051, .ref 1058, .ref 365, .ref 1065, .ref 1072, .ref 1079, .ref 365, .ref 1086, .ref 1093, .ref 365, .ref 365, .ref 1100, .ref 1107, .ref 1114, .ref 365, .ref 1121, .ref 1128, .ref 1135, .ref 365, .ref 1142, .ref 1149, .ref 1156, .ref 365, .ref 1163, .ref 1170, .ref 365, .ref 365, .ref 1177, .ref 1184, .ref 1191, .ref 365, .ref 1198, .ref 1205, .ref 1212, .ref 365, .ref 1219, .ref 1226, .ref 1233, .ref 365, .ref 1240, .ref 1247, .ref 365, .ref 365, .ref 365, .ref 1254, .ref 1261, .ref 365, .ref 1268, .ref 1275, .ref 365, .ref 365, .ref 365, .ref 1282, .ref 1289, .ref 365, .ref 1296, .ref 1303, .ref 365, .ref 365, .ref 1310, .ref 1317, .ref 1324, .ref 365, .ref 1331, .ref 1338, .ref 1345, .ref 365, .ref 1352, .ref 1359, .ref 1366, .ref 365, .ref 1373, .ref 1380, .ref 365, .ref 365, .ref 365, .ref 1387, .ref 1394, .ref 365, .ref 1401, .ref 1408, .ref 365, .ref 365, .ref 365, .ref 1415, .ref 1422, .ref 365]
noncomputable def lateL1424 : List Value := [.int 7 1711, .int 6 1712, .int 0 1713, .int 0 1714, .int 0 1715, .int 3 1716, .int 5 1717, .int 0 1718, .int 3 1719, .int 2 1720, .int 2 1721, .int 0 1722, .int 0 1723, .int 4 1724, .int 6 1725, .int 0 1726, .int 2 1727, .int 5 1728, .int 0 1729, .int 0 1730, .int 0 1731, .int 4 1732, .int 6 1733, .int 0 1734, .int 2 1735, .int 4 1736, .int 0 1737, .int 0 1738, .int 0 1739, .int 4 1740, .int 7 1741, .int 0 1742, .int 6 1743, .int 6 1744, .int 0 1745, .int 0 1746, .int 3 1747, .int 3 1748, .int 5 1749, .int 0 1750, .int 4 1751, .int 2 1752, .int 2 1753, .int 0 1754, .int 4 1755, .int 4 1756, .int 6 1757, .int 0 1758, .int 2 1759, .int 5 1760, .int 0 1761, .int 0 1762, .int 0 1763, .int 4 1764, .int 6 1765, .int 0 1766, .int 2 1767, .int 4 1768, .int 0 1769, .int 0 1770, .int 0 1771, .int 4 1772, .int 7 1773, .int 0 1774, .int 6 1775, .int 6 1776, .int 0 1777, .int 0 1778, .int 0 1779, .int 3 1780, .int 5 1781, .int 0 1782, .int 3 1783, .int 2 1784, .int 2 1785, .int 0 1786, .int 3 1787, .int 4 1788, .int 6 1789, .int 0 1790, .int 2 1791, .int 5 1792, .int 0 1793, .int 0 1794, .int 0 1795, .int 4 1796, .int 6 1797, .int 0 1798, .int 2 1799, .int 4 1800, .int 0 1801, .int 0 1802, .int 0 1803, .int 4 1804, .int 7 1805, .int 0 1806, .int 6 1807, .int 6 1808, .int 0 1809, .int 0 1810, .int 0 1811, .int 3 1812, .int 5 1813, .int 0 1814, .int 4 1815, .int 2 1816, .int 2 1817, .int 0 1818, .int 5 1819, .int 4 1820, .int 6 1821, .int 0 1822, .int 2 1823, .int 5 1824, .int 0 1825, .int 0 1826, .int 0 1827, .int 4 1828, .int 6 1829, .int 0 1830, .int 2 1831, .int 4 1832, .int 0 1833, .int 0 1834, .int 0 1835, .int 4 1836, .int 7 1837, .int 0 1838, .int 0 1839, .int 6 1840, .int 0 1841, .int 0 1842, .int 3 1843, .int 3 1844, .int 3 1845, .int 0 1846, .int 2 1847, .int 0 1848, .int 2 1849, .int 0 1850, .int 4 1851, .int 4 1852, .int 4 1853, .int 0 1854, .int 2 1855, .int 6 1856, .int 0 1857, .int 0 1858, .int 4 1859, .int 4 1860, .int 4 1861, .int 0 1862, .int 2 1863, .int 5 1864, .int 2 1865, .int 0 1866, .int 0 1867, .int 5 1868, .int 0 1869, .int 0 1870, .int 2 1871, .int 6 1872, .int 2 1873, .int 0 1874, .int 3 1875, .int 3 1876, .int 3 1877, .int 0 1878, .int 2 1879, .int 2 1880, .int 2 1881, .int 0 1882, .int 4 1883, .int 4 1884, .int 4 1885, .int 0 1886, .int 2 1887, .int 5 1888, .int 0 1889, .int 0 1890, .int 4 1891, .int 4 1892, .int 4 1893, .int 0 1894, .int 2 1895, .int 4 1896, .int 2 1897, .int 0 1898, .int 4 1899, .int 4 1900, .int 4 1901, .int 0 1902, .int 2 1903, .int 6 1904, .int 0 1905, .int 0 1906, .int 3 1907, .int 3 1908, .int 5 1909, .int 0 1910, .int 2 1911, .int 2 1912, .int 2 1913, .int 0 1914, .int 4 1915, .int 4 1916, .int 3 1917, .int 0 1918, .int 2 1919, .int 5 1920, .int 0 1921, .int 0 1922, .int 0 1923, .int 4 1924, .int 6 1925, .int 0 1926, .int 2 1927, .int 4 1928, .int 0 1929, .int 0 1930, .int 0 1931, .int 4 1932, .int 7 1933, .int 0 1934, .int 2 1935, .int 6 1936, .int 0 1937, .int 0 1938, .int 3 1939, .int 3 1940, .int 5 1941, .int 0 1942, .int 2 1943, .int 2 1944, .int 2 1945, .int 0 1946, .int 4 1947, .int 4 1948, .int 6 1949, .int 0 1950, .int 2 1951, .int 5 1952, .int 0 1953, .int 0 1954, .int 0 1955, .int 4 1956, .int 6 1957, .int 0 1958, .int 2 1959, .int 4 1960, .int 0 1961, .int 0 1962, .int 0 1963, .int 4 1964, .int 7 1965, .int 0 1966]
noncomputable def lateL1425 : List Value := [.int 0 1968, .int 0 1969, .int 0 1970, .int 0 1971, .int 0 1972, .int 0 1973, .int 0 1974, .int 0 1975, .int 0 1976, .int 0 1977, .int 0 1978, .int 0 1979, .int 0 1980, .int 0 1981, .int 0 1982, .int 0 1983, .int 2 1984, .int 1 1985, .int 0 1986, .int 0 1987, .int 0 1988, .int 0 1989, .int 0 1990, .int 0 1991, .int 0 1992, .int 1 1993, .int 0 1994, .int 0 1995, .int 0 1996, .int 1 1997, .int 0 1998, .int 0 1999, .int 0 2000, .int 0 2001, .int 0 2002, .int 0 2003, .int 0 2004, .int 0 2005, .int 0 2006, .int 0 2007, .int 0 2008, .int 0 2009, .int 0 2010, .int 0 2011, .int 0 2012, .int 0 2013, .int 0 2014, .int 0 2015, .int 2 2016, .int 1 2017, .int 0 2018, .int 0 2019, .int 0 2020, .int 0 2021, .int 0 2022, .int 0 2023, .int 0 2024, .int 1 2025, .int 0 2026, .int 0 2027, .int 0 2028, .int 1 2029, .int 0 2030, .int 0 2031, .int 0 2032, .int 0 2033, .int 0 2034, .int 0 2035, .int 0 2036, .int 0 2037, .int 0 2038, .int 0 2039, .int 0 2040, .int 0 2041, .int 0 2042, .int 0 2043, .int 0 2044, .int 0 2045, .int 0 2046, .int 0 2047, .int 2 2048, .int 1 2049, .int 0 2050, .int 0 2051, .int 0 2052, .int 0 2053, .int 0 2054, .int 0 2055, .int 0 2056, .int 1 2057, .int 0 2058, .int 0 2059, .int 0 2060, .int 1 2061, .int 0 2062, .int 0 2063, .int 0 2064, .int 0 2065, .int 0 2066, .int 0 2067, .int 0 2068, .int 0 2069, .int 0 2070, .int 0 2071, .int 0 2072, .int 0 2073, .int 0 2074, .int 0 2075, .int 0 2076, .int 0 2077, .int 0 2078, .int 0 2079, .int 2 2080, .int 1 2081, .int 0 2082, .int 0 2083, .int 0 2084, .int 0 2085, .int 0 2086, .int 0 2087, .int 0 2088, .int 1 2089, .int 0 2090, .int 0 2091, .int 0 2092, .int 1 2093, .int 0 2094, .int 0 2095, .int 0 2096, .int 0 2097, .int 0 2098, .int 0 2099, .int 0 2100, .int 0 2101, .int 0 2102, .int 0 2103, .int 0 2104, .int 0 2105, .int 0 2106, .int 0 2107, .int 0 2108, .int 0 2109, .int 0 2110, .int 0 2111, .int 2 2112, .int 0 2113, .int 0 2114, .int 0 2115, .int 0 2116, .int 0 2117, .int 0 2118, .int 0 2119, .int 0 2120, .int 0 2121, .int 0 2122, .int 0 2123, .int 0 2124, .int 0 2125, .int 0 2126, .int 0 2127, .int 0 2128, .int 0 2129, .int 0 2130, .int 0 2131, .int 0 2132, .int 0 2133, .int 0 2134, .int 0 2135, .int 0 2136, .int 0 2137, .int 0 2138, .int 0 2139, .int 0 2140, .int 0 2141, .int 0 2142, .int 0 2143, .int 2 2144, .int 1 2145, .int 0 2146, .int 0 2147, .int 0 2148, .int 0 2149, .int 0 2150, .int 0 2151, .int 0 2152, .int 1 2153, .int 0 2154, .int 0 2155, .int 1 2156, .int 1 2157, .int 1 2158, .int 0 2159, .int 0 2160, .int 0 2161, .int 0 2162, .int 0 2163, .int 0 2164, .int 0 2165, .int 0 2166, .int 0 2167, .int 0 2168, .int 0 2169, .int 0 2170, .int 0 2171, .int 0 2172, .int 0 2173, .int 0 2174, .int 0 2175, .int 2 2176, .int 1 2177, .int 0 2178, .int 0 2179, .int 0 2180, .int 0 2181, .int 0 2182, .int 0 2183, .int 0 2184, .int 1 2185, .int 0 2186, .int 0 2187, .int 0 2188, .int 1 2189, .int 0 2190, .int 0 2191, .int 0 2192, .int 0 2193, .int 0 2194, .int 0 2195, .int 0 2196, .int 0 2197, .int 0 2198, .int 0 2199, .int 0 2200, .int 0 2201, .int 0 2202, .int 0 2203, .int 0 2204, .int 0 2205, .int 0 2206, .int 0 2207, .int 2 2208, .int 1 2209, .int 0 2210, .int 0 2211, .int 0 2212, .int 0 2213, .int 0 2214, .int 0 2215, .int 0 2216, .int 1 2217, .int 0 2218, .int 0 2219, .int 0 2220, .int 1 2221, .int 0 2222, .int 0 2223]
noncomputable def lateL1525 : List Value := [.ref 1468, .ref 1469, .ref 1470, .ref 1471, .ref 1472, .ref 1473, .ref 1474, .ref 1475, .ref 1476, .ref 1477, .ref 1478, .ref 1479, .ref 1480, .ref 1481, .ref 1482, .ref 1483, .ref 1484, .ref 1485, .ref 1486, .ref 1487, .ref 1488, .ref 1489, .ref 1490, .ref 1491, .ref 1492, .ref 1493, .ref 1494, .ref 1495, .ref 1496, .ref 1497, .ref 1498, .ref 1499, .ref 1500, .ref 1501, .ref 1502, .ref 1503, .ref 1504, .ref 1505, .ref 1506, .ref 1507, .ref 1508, .ref 1509, .ref 1510, .ref 1511, .ref 1512, .ref 1513, .ref 1514, .ref 1515, .ref 1516, .ref 1517, .ref 1518, .ref 1519, .ref 1520, .ref 1521, .ref 1522, .ref 1523, .ref 1524]
noncomputable def lateO (P : Params) : List Obj := [
  ⟨.type "list", none, .seq lateL1423.toArray, #[]⟩,
  ⟨.type "list", none, .seq lateL1424.toArray, #[]⟩,
  ⟨.type "list", none, .seq lateL1425.toArray, #[]⟩,
  ⟨.type "tuple", none, .seq [.str (Str.ofString "a") 2225, .str (Str.ofString "addcycles") 2226, .str (Str.ofString "addrHighMask") 2227, .str (Str.ofString "addrMask") 2228, .str (Str.ofString "byteMask") 2229, .str (Str.ofString "excycles") 2230, .str (Str.ofString "memory") 2231, .str (Str.ofString "name") 2232, .str (Str.ofString "p") 2233, .str (Str.ofString "pc") 2234, .str (Str.ofString "processorCycles") 2235, .str (Str.ofString "sp") 2236, .str (Str.ofString "spBase") 2237, .str (Str.ofString "start_pc") 2238, .str (Str.ofString "x") 2239, .str (Str.ofString "y") 2240].toArray, #[]⟩,
  ⟨.type "dict", none, .dict (esCls P ++ [entS P "__dict__" 2243 (.ref 1429), entS P "__weakref__" 2245 (.ref 1430), entS P "__doc__" 2246 (.none)]).toArray 4, #[]⟩,
  ⟨.type "type", none, .cls { name := Str.ofString "MPU", bases := [.type "object"], mro := [.ref 1428, .type "object"], ns := 1427, qualname := Str.ofString "MPU" }, [none, none, some (.str (Str.ofString "MPU") 196), some (.str (Str.ofString "MPU") 204), some (.builtin "object.__new__"), some (.bool true)].toArray⟩,
  ⟨.type "getset_descriptor", none, .fields [.str (Str.ofString "__dict__") 2242, .ref 1428, .builtin "function.__dict__", .builtin "function.__dict__#set"].toArray, #[]⟩,
  ⟨.type "getset_descriptor", none, .fields [.str (Str.ofString "__weakref__") 2244, .ref 1428, .builtin "ExceptionGroup.__weakref__", .none].toArray, #[]⟩,
  ⟨.type "super", none, .fields [.ref 1428, .ref 1428, .ref 1428].toArray, #[]⟩,
  ⟨.type "builtin_function_or_method", none, .fields [.builtin "object.__init_subclass__", .ref 1428].toArray, #[]⟩,
  ⟨.type "tuple", none, .seq [].toArray, #[]⟩,
  ⟨.none, none, .fields [].toArray, #[]⟩,
  ⟨.type "tuple", none, .seq [].toArray, #[]⟩,
  ⟨.type "tuple", none, .seq [].toArray, #[]⟩,
  ⟨.none, none, .func (fnRec 4), #[]⟩,
  ⟨.type "code", none, .fields [.str (Str.ofString "_law_one") 2251, .str (Str.ofString "_law_one") 2252, .str (Str.ofString "/claim/cut.py") 2253, .int 1031 0, .int 0 0, .int 0 0, .int 0 0, .int 3 0, .ref 1433, .bool true, .int 181 0, .ref 1434, .none, .ref 1435, .ref 1436, .ref 1437, .int 2254 0, .int 1031 0, .str (Str.ofString "/claim/cut.py") 2255].toArray, #[]⟩,
  ⟨.type "function", none, .func { fnRec 4 with globals := 3, pyModule := .str (Str.ofString "law_im0095_03") 2249, code := .ref 1438 }, #[]⟩,
  ⟨.type "tuple", none, .seq [].toArray, #[]⟩,
  ⟨.none, none, .fields [].toArray, #[]⟩,
  ⟨.type "tuple", none, .seq [].toArray, #[]⟩,
  ⟨.type "tuple", none, .seq [].toArray, #[]⟩,
  ⟨.none, none, .func (fnRec 5), #[]⟩,
  ⟨.type "code", none, .fields [.str (Str.ofString "_law_two") 2257, .str (Str.ofString "_law_two") 2258, .str (Str.ofString "/claim/cut.py") 2259, .int 1033 0, .int 0 0, .int 0 0, .int 0 0, .int 3 0, .ref 1440, .bool true, .int 181 0, .ref 1441, .none, .ref 1442, .ref 1443, .ref 1444, .int 2260 0, .int 1033 0, .str (Str.ofString "/claim/cut.py") 2261].toArray, #[]⟩,
  ⟨.type "function", none, .func { fnRec 5 with globals := 3, pyModule := .str (Str.ofString "law_im0095_03") 2249, code := .ref 1445 }, #[]⟩,
  ⟨.type "tuple", none, .seq [].toArray, #[]⟩,
  ⟨.none, none, .fields [].toArray, #[]⟩,
  ⟨.type "tuple", none, .seq [].toArray, #[]⟩,
  ⟨.type "tuple", none, .seq [].toArray, #[]⟩,
  ⟨.none, none, .func (fnRec 6), #[]⟩,
  ⟨.type "code", none, .fields [.str (Str.ofString "_law_three") 2263, .str (Str.ofString "_law_three") 2264, .str (Str.ofString "/claim/cut.py") 2265, .int 1035 0, .int 0 0, .int 0 0, .int 0 0, .int 3 0, .ref 1447, .bool true, .int 181 0, .ref 1448, .none, .ref 1449, .ref 1450, .ref 1451, .int 2266 0, .int 1035 0, .str (Str.ofString "/claim/cut.py") 2267].toArray, #[]⟩,
  ⟨.type "function", none, .func { fnRec 6 with globals := 3, pyModule := .str (Str.ofString "law_im0095_03") 2249, code := .ref 1452 }, #[]⟩,
  ⟨.type "tuple", none, .seq [].toArray, #[]⟩,
  ⟨.none, none, .fields [].toArray, #[]⟩,
  ⟨.type "tuple", none, .seq [].toArray, #[]⟩,
  ⟨.type "tuple", none, .seq [].toArray, #[]⟩,
  ⟨.none, none, .func (fnRec 7), #[]⟩,
  ⟨.type "code", none, .fields [.str (Str.ofString "_law_near") 2269, .str (Str.ofString "_law_near") 2270, .str (Str.ofString "/claim/cut.py") 2271, .int 1037 0, .int 0 0, .int 0 0, .int 0 0, .int 3 0, .ref 1454, .bool true, .int 181 0, .ref 1455, .none, .ref 1456, .ref 1457, .ref 1458, .int 2272 0, .int 1037 0, .str (Str.ofString "/claim/cut.py") 2273].toArray, #[]⟩,
  ⟨.type "function", none, .func { fnRec 7 with globals := 3, pyModule := .str (Str.ofString "law_im0095_03") 2249, code := .ref 1459 }, #[]⟩,
  ⟨.type "tuple", none, .seq [].toArray, #[]⟩,
  ⟨.none, none, .fields [].toArray, #[]⟩,
  ⟨.type "tuple", none, .seq [].toArray, #[]⟩,
  ⟨.type "tuple", none, .seq [].toArray, #[]⟩,
  ⟨.none, none, .func (fnRec 8), #[]⟩,
  ⟨.type "code", none, .fields [.str (Str.ofString "_law_more") 2275, .str (Str.ofString "_law_more") 2276, .str (Str.ofString "/claim/cut.py") 2277, .int 1039 0, .int 0 0, .int 0 0, .int 0 0, .int 3 0, .ref 1461, .bool true, .int 181 0, .ref 1462, .none, .ref 1463, .ref 1464, .ref 1465, .int 2278 0, .int 1039 0, .str (Str.ofString "/claim/cut.py") 2279].toArray, #[]⟩,
  ⟨.type "function", none, .func { fnRec 8 with globals := 3, pyModule := .str (Str.ofString "law_im0095_03") 2249, code := .ref 1466 }, #[]⟩,
  ⟨.type "tuple", none, .seq [.str (Str.ofString "at") 2281, .str (Str.ofString "main") 2282].toArray, #[]⟩,
  ⟨.type "tuple", none, .seq [.str (Str.ofString "ldy") 2283, .int 0 2284].toArray, #[]⟩,
  ⟨.type "tuple", none, .seq [.str (Str.ofString "at") 2285, .str (Str.ofString "one") 2286].toArray, #[]⟩,
  ⟨.type "tuple", none, .seq [.str (Str.ofString "jsr") 2287, .str (Str.ofString "resume") 2288].toArray, #[]⟩,
  ⟨.type "tuple", none, .seq [.str (Str.ofString "sta2") 2289, .int 5 2290].toArray, #[]⟩,
  ⟨.type "tuple", none, .seq [.str (Str.ofString "ldy") 2291, .int 1 2292].toArray, #[]⟩,
  ⟨.type "tuple", none, .seq [.str (Str.ofString "at") 2293, .str (Str.ofString "two") 2294].toArray, #[]⟩,
  ⟨.type "tuple", none, .seq [.str (Str.ofString "jsr") 2295, .str (Str.ofString "resume") 2296].toArray, #[]⟩,
  ⟨.type "tuple", none, .seq [.str (Str.ofString "cmp2") 2297, .int 5 2298].toArray, #[]⟩,
  ⟨.type "tuple", none, .seq [.str (Str.ofString "bne") 2299, .str (Str.ofString "stop") 2300].toArray, #[]⟩,
  ⟨.type "tuple", none, .seq [.str (Str.ofString "cmp") 2301, .int 0 2302].toArray, #[]⟩,
  ⟨.type "tuple", none, .seq [.str (Str.ofString "beq") 2303, .str (Str.ofString "same") 2304].toArray, #[]⟩,
  ⟨.type "tuple", none, .seq [.str (Str.ofString "inc2") 2305, .int 7 2306].toArray, #[]⟩,
  ⟨.type "tuple", none, .seq [.str (Str.ofString "jmp") 2307, .str (Str.ofString "main") 2308].toArray, #[]⟩,
  ⟨.type "tuple", none, .seq [.str (Str.ofString "at") 2309, .str (Str.ofString "same") 2310].toArray, #[]⟩,
  ⟨.type "tuple", none, .seq [.str (Str.ofString "inc2") 2311, .int 8 2312].toArray, #[]⟩,
  ⟨.type "tuple", none, .seq [.str (Str.ofString "jmp") 2313, .str (Str.ofString "stop") 2314].toArray, #[]⟩,
  ⟨.type "tuple", none, .seq [.str (Str.ofString "at") 2315, .str (Str.ofString "resume") 2316].toArray, #[]⟩,
  ⟨.type "tuple", none, .seq [.str (Str.ofString "tsx") 2317, .int 0 2318].toArray, #[]⟩,
  ⟨.type "tuple", none, .seq [.str (Str.ofString "stx2") 2319, .int 3 2320].toArray, #[]⟩,
  ⟨.type "tuple", none, .seq [.str (Str.ofString "ldxy") 2321, .int 16 2322].toArray, #[]⟩,
  ⟨.type "tuple", none, .seq [.str (Str.ofString "txs") 2323, .int 0 2324].toArray, #[]⟩,
  ⟨.type "tuple", none, .seq [.str (Str.ofString "rts") 2325, .int 0 2326].toArray, #[]⟩,
  ⟨.type "tuple", none, .seq [.str (Str.ofString "at") 2327, .str (Str.ofString "begin") 2328].toArray, #[]⟩,
  ⟨.type "tuple", none, .seq [.str (Str.ofString "ldxy") 2329, .int 20 2330].toArray, #[]⟩,
  ⟨.type "tuple", none, .seq [.str (Str.ofString "at") 2331, .str (Str.ofString "first") 2332].toArray, #[]⟩,
  ⟨.type "tuple", none, .seq [.str (Str.ofString "jsr") 2333, .str (Str.ofString "walk") 2334].toArray, #[]⟩,
  ⟨.type "tuple", none, .seq [.str (Str.ofString "at") 2335, .str (Str.ofString "over") 2336].toArray, #[]⟩,
  ⟨.type "tuple", none, .seq [.str (Str.ofString "lda") 2337, .int 0 2338].toArray, #[]⟩,
  ⟨.type "tuple", none, .seq [.str (Str.ofString "at") 2339, .str (Str.ofString "last") 2340].toArray, #[]⟩,
  ⟨.type "tuple", none, .seq [.str (Str.ofString "jsr") 2341, .str (Str.ofString "give") 2342].toArray, #[]⟩,
  ⟨.type "tuple", none, .seq [.str (Str.ofString "jmp") 2343, .str (Str.ofString "over") 2344].toArray, #[]⟩,
  ⟨.type "tuple", none, .seq [.str (Str.ofString "at") 2345, .str (Str.ofString "walk") 2346].toArray, #[]⟩,
  ⟨.type "tuple", none, .seq [.str (Str.ofString "ldax") 2347, .int 1056 2348].toArray, #[]⟩,
  ⟨.type "tuple", none, .seq [.str (Str.ofString "beq") 2349, .str (Str.ofString "leaf") 2350].toArray, #[]⟩,
  ⟨.type "tuple", none, .seq [.str (Str.ofString "txa") 2351, .int 0 2352].toArray, #[]⟩,
  ⟨.type "tuple", none, .seq [.str (Str.ofString "pha") 2353, .int 0 2354].toArray, #[]⟩,
  ⟨.type "tuple", none, .seq [.str (Str.ofString "ldax") 2355, .int 1056 2356].toArray, #[]⟩,
  ⟨.type "tuple", none, .seq [.str (Str.ofString "tax") 2357, .int 0 2358].toArray, #[]⟩,
  ⟨.type "tuple", none, .seq [.str (Str.ofString "at") 2359, .str (Str.ofString "deep") 2360].toArray, #[]⟩,
  ⟨.type "tuple", none, .seq [.str (Str.ofString "jsr") 2361, .str (Str.ofString "walk") 2362].toArray, #[]⟩,
  ⟨.type "tuple", none, .seq [.str (Str.ofString "pla") 2363, .int 0 2364].toArray, #[]⟩,
  ⟨.type "tuple", none, .seq [.str (Str.ofString "tax") 2365, .int 0 2366].toArray, #[]⟩,
  ⟨.type "tuple", none, .seq [.str (Str.ofString "ldax") 2367, .int 1088 2368].toArray, #[]⟩,
  ⟨.type "tuple", none, .seq [.str (Str.ofString "tax") 2369, .int 0 2370].toArray, #[]⟩,
  ⟨.type "tuple", none, .seq [.str (Str.ofString "jmp") 2371, .str (Str.ofString "walk") 2372].toArray, #[]⟩,
  ⟨.type "tuple", none, .seq [.str (Str.ofString "at") 2373, .str (Str.ofString "leaf") 2374].toArray, #[]⟩,
  ⟨.type "tuple", none, .seq [.str (Str.ofString "ldax") 2375, .int 1024 2376].toArray, #[]⟩,
  ⟨.type "tuple", none, .seq [.str (Str.ofString "at") 2377, .str (Str.ofString "give") 2378].toArray, #[]⟩,
  ⟨.type "tuple", none, .seq [.str (Str.ofString "sta2") 2379, .int 2 2380].toArray, #[]⟩,
  ⟨.type "tuple", none, .seq [.str (Str.ofString "tsx") 2381, .int 0 2382].toArray, #[]⟩,
  ⟨.type "tuple", none, .seq [.str (Str.ofString "stxy") 2383, .int 16 2384].toArray, #[]⟩,
  ⟨.type "tuple", none, .seq [.str (Str.ofString "ldx2") 2385, .int 3 2386].toArray, #[]⟩,
  ⟨.type "tuple", none, .seq [.str (Str.ofString "txs") 2387, .int 0 2388].toArray, #[]⟩,
  ⟨.type "tuple", none, .seq [.str (Str.ofString "lda2") 2389, .int 2 2390].toArray, #[]⟩,
  ⟨.type "tuple", none, .seq [.str (Str.ofString "rts") 2391, .int 0 2392].toArray, #[]⟩,
  ⟨.type "tuple", none, .seq [.str (Str.ofString "at") 2393, .str (Str.ofString "stop") 2394].toArray, #[]⟩,
  ⟨.type "list", none, .seq lateL1525.toArray, #[]⟩,
  ⟨.type "tuple", none, .seq [].toArray, #[]⟩,
  ⟨.none, none, .fields [].toArray, #[]⟩,
  ⟨.type "tuple", none, .seq [.str (Str.ofString "rows") 2399, .str (Str.ofString "origin") 2400, .str (Str.ofString "spots") 2401, .str (Str.ofString "at") 2402, .str (Str.ofString "name") 2403, .str (Str.ofString "operand") 2404, .str (Str.ofString "octets") 2405, .str (Str.ofString "value") 2406].toArray, #[]⟩,
  ⟨.type "tuple", none, .seq [].toArray, #[]⟩,
  ⟨.none, none, .func (fnRec 10), #[]⟩,
  ⟨.type "code", none, .fields [.str (Str.ofString "_law_build") 2396, .str (Str.ofString "_law_build") 2397, .str (Str.ofString "/claim/cut.py") 2398, .int 1042 0, .int 2 0, .int 0 0, .int 0 0, .int 3 0, .ref 1526, .bool true, .int 181 0, .ref 1527, .none, .ref 1528, .ref 1529, .ref 1530, .int 2407 0, .int 1042 0, .str (Str.ofString "/claim/cut.py") 2408].toArray, #[]⟩,
  ⟨.type "function", none, .func { fnRec 10 with globals := 3, pyModule := .str (Str.ofString "law_im0095_03") 2249, code := .ref 1531 }, #[]⟩,
  ⟨.type "tuple", none, .seq [].toArray, #[]⟩,
  ⟨.none, none, .fields [].toArray, #[]⟩,
  ⟨.none, none, .func (fnRec 11), #[]⟩,
  ⟨.type "code", none, .fields [.str (Str.ofString "law") 2410, .str (Str.ofString "law") 2411, .str (Str.ofString "/claim/cut.py") 2412, .int 1067 0, .int 1 0, .int 0 0, .int 0 0, .int 3 0, .ref 1533, .bool true, .int 181 0, .ref 1534, .none, .none, .none, .ref 1535, .int 2413 0, .int 1067 0, .str (Str.ofString "/claim/cut.py") 2414].toArray, #[]⟩,
  ⟨.type "function", none, .func { fnRec 11 with globals := 3, pyModule := .str (Str.ofString "law_im0095_03") 2249, code := .ref 1536 }, #[]⟩]
noncomputable def glob (P : Params) : Obj := ⟨.type "dict", none, .dict [entS P "__name__" 165 (.str (Str.ofString "law_im0095_03") 2249), entS P "__doc__" 166 (.none), entS P "__package__" 167 (.none), entS P "__loader__" 168 (.builtin "__main__.__loader__#opaque"), entS P "__spec__" 169 (.none), entS P "__annotations__" 170 (.ref 6), entS P "__builtins__" 171 (.ref 4), entS P "__file__" 173 (.str (Str.ofString "/claim/cut.py") 172), entS P "__cached__" 174 (.none), entS P "_wall" 193 (.ref 21), entS P "MPU" 2248 (.ref 1428), entS P "_law_one" 2256 (.ref 1439), entS P "_law_two" 2262 (.ref 1446), entS P "_law_three" 2268 (.ref 1453), entS P "_law_near" 2274 (.ref 1460), entS P "_law_more" 2280 (.ref 1467), entS P "_law_rows" 2395 (.ref 1525), entS P "_law_build" 2409 (.ref 1532), entS P "law" 2415 (.ref 1537)].toArray 19, #[]⟩
noncomputable def tab12 : Obj := noneO [.int 1 0, .int 0 0, .ref 20, .int 5 0, .int 0 0, .ref 27, .int 1031 0, .int 0 0, .ref 1438, .int 1033 0, .int 0 0, .ref 1445, .int 1035 0, .int 0 0, .ref 1452, .int 1037 0, .int 0 0, .ref 1459, .int 1039 0, .int 0 0, .ref 1466, .int 1042 0, .int 0 0, .ref 1531, .int 1067 0, .int 0 0, .ref 1536]
noncomputable def finL (P : Params) : List Obj := [
  boot_o_0 P,
  boot_o_1 P,
  boot_o_2 P,
  glob P,
  boot_o_4 P,
  boot_o_5 P,
  boot_o_6 P,
  boot_o_7 P,
  boot_o_8 P,
  boot_o_9 P,
  boot_o_10 P,
  ⟨.type "tuple", none, .seq [].toArray, #[]⟩,
  tab12,
  ⟨.type "code", none, .fields [.str (Str.ofString "<module>") 182, .str (Str.ofString "<module>") 183, .str (Str.ofString "/claim/cut.py") 184, .int 1 0, .int 0 0, .int 0 0, .int 0 0, .int 0 0, .ref 11, .bool false, .int 181 0, .ref 12, .none, .none, .none, .none, .int 185 0, .int 1 0, .str (Str.ofString "/claim/cut.py") 186].toArray, #[]⟩,
  ⟨.type "frame", none, .plain, [some (.ref 13), some (.ref 3), some (.ref 3), none, some (.str (Str.ofString "__main__") 164), none, some (.ref 0)].toArray⟩,
  ⟨.type "tuple", none, .seq [].toArray, #[]⟩,
  ⟨.none, none, .fields [].toArray, #[]⟩,
  ⟨.type "tuple", none, .seq [.str (Str.ofString "k") 190].toArray, #[]⟩,
  ⟨.type "tuple", none, .seq [].toArray, #[]⟩,
  ⟨.none, none, .func (fnRec 0), #[]⟩,
  ⟨.type "code", none, .fields [.str (Str.ofString "_wall") 187, .str (Str.ofString "_wall") 188, .str (Str.ofString "/claim/cut.py") 189, .int 1 0, .int 1 0, .int 0 0, .int 0 0, .int 3 0, .ref 15, .bool true, .int 181 0, .ref 16, .none, .ref 17, .ref 18, .ref 19, .int 191 0, .int 1 0, .str (Str.ofString "/claim/cut.py") 192].toArray, #[]⟩,
  ⟨.type "function", none, .func { fnRec 0 with globals := 3, pyModule := .str (Str.ofString "__main__") 164, code := .ref 20 }, #[]⟩,
  ⟨.type "tuple", none, .seq [].toArray, #[]⟩,
  ⟨.type "builtin_function_or_method", none, .fields [.builtin "type.__prepare__", .type "type"].toArray, #[]⟩,
  ⟨.type "dict", none, .dict (esAll P).toArray 221, #[]⟩,
  ⟨.type "tuple", none, .seq [].toArray, #[]⟩,
  noneO (defMade P 29 238 ((clsBody.drop 15).take 199)).tab,
  ⟨.type "code", none, .fields [.str (Str.ofString "MPU") 198, .str (Str.ofString "MPU") 199, .str (Str.ofString "/claim/cut.py") 200, .int 5 0, .int 0 0, .int 0 0, .int 0 0, .int 0 0, .ref 25, .bool false, .int 181 0, .ref 26, .none, .none, .none, .none, .int 201 0, .int 5 0, .str (Str.ofString "/claim/cut.py") 202].toArray, #[]⟩,
  ⟨.type "frame", none, .plain, [some (.ref 27), some (.ref 3), some (.ref 24), none, some (.str (Str.ofString "py65.devices.mpu6502") 194), none, some (.ref 0)].toArray⟩] ++ (defMade P 29 238 ((clsBody.drop 15).take 199)).objs ++ lateO P
noncomputable def Sf (w : World) (os : OsState) : SharedT := ⟨btL 20 (finL w.params), 1538, (boot_heap w.params).life, #[], boot_drawn, 2416, os⟩
theorem ch0 (w : World) (os : OsState) : segG okT (stT w) 2 3000 (Sk w os (defsK w 0) 29 238) (piecesT ((clsBody.drop 15).take 70) envC codeC (qn w os) (Bc w os)) = some (.next, Sk w os (defsK w 70) 520 806, codeC, posK 70) := by kernel_rfl
theorem ch70 (w : World) (os : OsState) : segG okT (stT w) 2 3000 (Sk w os (defsK w 70) 520 806) (piecesT (((clsBody.drop 15).drop 70).take 65) envC codeC (posK 70) (Bc w os)) = some (.next, Sk w os (defsK w 135) 975 1262, codeC, posK 135) := by kernel_rfl
theorem ch135 (w : World) (os : OsState) : segG okT (stT w) 2 3000 (Sk w os (defsK w 135) 975 1262) (piecesT (((clsBody.drop 15).drop 135).take 64) envC codeC (posK 135) (Bc w os)) = some (.next, Sk w os (defsK w 199) 1423 1710, codeC, posK 199) := by kernel_rfl
theorem chF (w : World) (os : OsState) : topG okT (stT w) 6000 (Sk w os (defsK w 199) 1423 1710) (Tf w os) = some (Sf w os) := by kernel_rfl
noncomputable def H1 (P : Params) : Heap := ⟨(finL P).toArray, (boot_heap P).life⟩
theorem abs_f (w : World) (os : OsState) : (Sf w os).abs = ⟨H1 w.params, #[], boot_drawn, 2416, os⟩ := by kernel_rfl
noncomputable def q : Program := view pw [11]
noncomputable def looseQ : List Str := ["_wall", "MPU", "_law_one", "_law_two", "_law_three", "_law_near", "_law_more", "_law_rows", "_law_build"]
noncomputable def XtQ (s : Shared) : Bool := xlAt q [] s && recOk [] s
theorem look1 (w : World) (os : OsState) : (staticsOk (importedModules pw.main.body) (boot_heap w.params) (H1 w.params) && namesBound pw (H1 w.params) && gensDone ⟨H1 w.params, #[], boot_drawn, 2416, os⟩ && laidKept (boot_heap w.params) (H1 w.params)) = true := by kernel_rfl
theorem look2 (w : World) (os : OsState) : openSeen q looseQ (importedModules pw.main.body) XtQ true ⟨H1 w.params, #[], boot_drawn, 2416, os⟩ = openGood q looseQ := by
  rw [PySem.W.Fast.te4187177175401517315]
  kernel_rfl
theorem seg_of {w : World} {os : OsState} {n : Nat} {S S' : SharedT} {t t' : Thread} {c : Code} {p : Pos} (e : t' = t) (h : segG okT (stT w) 2 n S t = some (.next, S', c, p)) :
    segRun treeTable pw w 11 (some (.ref 6)) (Bc w os).length n S.abs t' = some (.next, S'.abs, c, p) := by
  rw [Bc_len, e]
  rw [← okT_eq, ← stT_eq, segG_eq] at h
  exact segRun_of h
theorem pb_run (w : World) (os : OsState) : segG okT (stT w) 2 2000 (Pd w os).1 (blockOf clsBody envC codeC clsPos (Bc w os)) = some (.next, Sb w os, codeC, qb w os) := pb w os
theorem pn_run (w : World) (os : OsState) : segG okT (stT w) 2 2000 (Sb w os) (piecesT (clsBody.take 15) envC codeC (qb w os) (Bc w os)) = some (.next, Sk w os (defsK w 0) 29 238, codeC, qn w os) := by
  have := pn w os
  rw [test0] at this
  exact this
theorem body_split : clsBody = clsBody.take 15 ++ (((clsBody.drop 15).take 70) ++ ((((clsBody.drop 15).drop 70).take 65) ++ ((((clsBody.drop 15).drop 135).take 64) ++ clsBody.drop 214))) := by
  have e1 : clsBody.drop 214 = ((clsBody.drop 15).drop 135).drop 64 := by rw [List.drop_drop, List.drop_drop]
  have e2 : (clsBody.drop 15).drop 135 = ((clsBody.drop 15).drop 70).drop 65 := by rw [List.drop_drop, List.drop_drop, List.drop_drop]
  rw [e1, List.take_append_drop, e2, List.take_append_drop, List.take_append_drop, List.take_append_drop]
theorem opens : opening pw = plainProg pw.main.scope.names := by kernel_rfl
theorem fences (s : Shared) : fenceModules? pw s = some s := by kernel_rfl
theorem size0 (w : World) : ((boot_heap w.params).isNs mainGlobals && (#[] : Array GenState).size == 0, (boot_heap w.params).objs.size, (boot_heap w.params).nsMap mainGlobals "__annotations__") = (true, 11, some (.ref 6)) := by kernel_rfl
noncomputable def endS (w : World) (os : OsState) : Shared := ⟨H1 w.params, #[], boot_drawn, 2416, os⟩
abbrev runs (w : World) (os : OsState) (n : Nat) (s : Shared) (t : Thread) : Prop := topRun treeTable pw w 11 (some (.ref 6)) n s t = some (endS w os)
theorem r5 (w : World) (os : OsState) : runs w os 6000 (Sk w os (defsK w 199) 1423 1710).abs (restOf (clsBody.drop 214) envC codeC (posK 199) (Bc w os)) := by
  have h2 := chF w os
  unfold Tf at h2
  rw [← restT_eq, ← okT_eq, ← stT_eq] at h2
  have g2 := topG_of h2
  rw [abs_f] at g2
  exact g2
theorem r4 (w : World) (os : OsState) : runs w os (3000 + 6000) (Sk w os (defsK w 135) 975 1262).abs (restOf ((((clsBody.drop 15).drop 135).take 64) ++ clsBody.drop 214) envC codeC (posK 135) (Bc w os)) :=
  body_app (Bc_split w os) (seg_of (piecesT_eq ..) (ch135 w os)) (r5 w os)
theorem r3 (w : World) (os : OsState) : runs w os (3000 + (3000 + 6000)) (Sk w os (defsK w 70) 520 806).abs (restOf ((((clsBody.drop 15).drop 70).take 65) ++ ((((clsBody.drop 15).drop 135).take 64) ++ clsBody.drop 214)) envC codeC (posK 70) (Bc w os)) :=
  body_app (Bc_split w os) (seg_of (piecesT_eq ..) (ch70 w os)) (r4 w os)
theorem r2 (w : World) (os : OsState) : runs w os (3000 + (3000 + (3000 + 6000))) (Sk w os (defsK w 0) 29 238).abs (restOf (((clsBody.drop 15).take 70) ++ ((((clsBody.drop 15).drop 70).take 65) ++ ((((clsBody.drop 15).drop 135).take 64) ++ clsBody.drop 214))) envC codeC (qn w os) (Bc w os)) :=
  body_app (Bc_split w os) (seg_of (piecesT_eq ..) (ch0 w os)) (r3 w os)
theorem r1 (w : World) (os : OsState) : runs w os (2000 + (3000 + (3000 + (3000 + 6000)))) (Sb w os).abs (restOf clsBody envC codeC (qb w os) (Bc w os)) := by
  have h := body_app (Bc_split w os) (seg_of (piecesT_eq ..) (pn_run w os)) (r2 w os)
  rw [← body_split] at h
  exact h
theorem r0 (w : World) (os : OsState) : runs w os (2000 + (2000 + (3000 + (3000 + (3000 + 6000))))) (Pd w os).1.abs ⟨denote treeTable (.body clsBody envC), codeC, clsPos, Bc w os⟩ :=
  body_start (Bc_split w os) (seg_of rfl (pb_run w os)) (r1 w os)
theorem run_top (w : World) (os : OsState) : runs w os (109 + (2000 + (2000 + (3000 + (3000 + (3000 + 6000)))))) ⟨boot_heap w.params, #[], boot_drawn, boot_toks, os⟩ (topStub pw) := by
  have h1 := pro w os
  rw [← okT_eq, ← stT_eq, ← dn_eq] at h1
  have g1 := goG_of h1
  rw [S0_abs] at g1
  exact go_top g1 (r0 w os)
theorem left {α : Type} {Yf : Shared → α} {Ya : World → α} (hY : ∀ w os, Yf (endS w os) = Ya w) : LeftO pw q looseQ XtQ Yf Ya 20000 :=
  LeftO.of_pieces (H₀ := boot_heap) (H₁ := H1) (gs₀ := #[]) (gs₁ := #[]) (d₀ := boot_drawn) (d₁ := boot_drawn) (k₀ := boot_toks) (k₁ := 2416) (m₀ := 11) (ann := some (.ref 6)) (M := 109 + (2000 + (2000 + (3000 + (3000 + (3000 + 6000))))))
    (boot_open opens (by decide) fences) size0 run_top (by decide) fun w => funext fun os => Prod.ext (look1 w os) (Prod.ext (look2 w os) (hY w os))
noncomputable def Kas : List Nat := [1, 2, 3, 29, 35, 36, 42, 43, 49, 50, 70, 71, 77, 78, 91, 92, 98, 99, 105, 106, 119, 120, 147, 148, 161, 162, 168, 169, 175, 176, 182, 183, 189, 190, 196, 197, 224, 225, 231, 232, 294, 295, 308, 309, 315, 316, 336, 337, 343, 344, 350, 351, 357, 358, 490, 491, 651, 652, 672, 673, 749, 750, 777, 778, 889, 890, 896, 897, 910, 911, 966, 967, 987, 988, 1001, 1002, 1029, 1030, 1036, 1037, 1050, 1051, 1057, 1058, 1113, 1114, 1134, 1135, 1148, 1149, 1183, 1184, 1204, 1205, 1239, 1240, 1323, 1324, 1372, 1373, 1423, 1424, 1425, 1427, 1428, 1438, 1439, 1445, 1446, 1452, 1453, 1459, 1460, 1466, 1467, 1468, 1469, 1470, 1471, 1472, 1473, 1474, 1475, 1476, 1477, 1478, 1479, 1480, 1481, 1482, 1483, 1484, 1485, 1486, 1487, 1488, 1489, 1490, 1491, 1492, 1493, 1494, 1495, 1496, 1497, 1498, 1499, 1500, 1501, 1502, 1503, 1504, 1505, 1506, 1507, 1508, 1509, 1510, 1511, 1512, 1513, 1514, 1515, 1516, 1517, 1518, 1519, 1520, 1521, 1522, 1523, 1524, 1525, 1531, 1532, 1536, 1537]
noncomputable def pick : List Nat → Nat → List Obj → Frag
  | _, _, [] => []
  | [], _, _ => []
  | a :: as, i, o :: os => match Nat.beq a i with
    | true => (a, o) :: pick as (i + 1) os
    | false => pick (a :: as) (i + 1) os
theorem pick_at : ∀ (as : List Nat) (i : Nat) (os : List Obj), ∀ p ∈ pick as i os, i ≤ p.1 ∧ os[p.1 - i]? = some p.2
  | _, _, [], p, h => by unfold pick at h; cases h
  | [], i, o :: os, p, h => by unfold pick at h; cases h
  | a :: as, i, o :: os, p, h => by
    unfold pick at h
    have up : ∀ q : Nat × Obj, i + 1 ≤ q.1 ∧ os[q.1 - (i + 1)]? = some q.2 → i ≤ q.1 ∧ (o :: os)[q.1 - i]? = some q.2 := by
      rintro q ⟨h1, h2⟩
      refine ⟨by lia, ?_⟩
      rw [show q.1 - i = (q.1 - (i + 1)) + 1 by lia, List.getElem?_cons_succ]
      exact h2
    cases e : Nat.beq a i with
    | true =>
      rw [e] at h
      rcases List.mem_cons.mp h with rfl | h
      · have := Nat.eq_of_beq_eq_true e
        subst this
        exact ⟨Nat.le_refl _, by simp⟩
      · exact up p (pick_at as (i + 1) os p h)
    | false =>
      rw [e] at h
      exact up p (pick_at (a :: as) (i + 1) os p h)
noncomputable def K (P : Params) : Frag := pick Kas 0 (finL P)
theorem Kas_eq (P : Params) : Kas = (K P).map (·.1) := by kernel_rfl
theorem K_live (P : Params) : (K P).all (fun p => !p.2.isFreed) = true := by kernel_rfl
theorem get_live {h : Heap} {a : Nat} {o : Obj} (e : h.objs[a]? = some o) (f : o.isFreed = false) : h.get? a = some o := by
  unfold Heap.get?
  rw [e]
  obtain ⟨c, d, dt, sl⟩ := o
  cases dt <;> first | rfl | cases f
theorem K_at (P : Params) : ∀ p ∈ K P, (H1 P).get? p.1 = some p.2 := fun p hp => by
  have h := (pick_at Kas 0 (finL P) p hp).2
  refine get_live ?_ ?_
  · show (finL P).toArray[p.1]? = some p.2
    rw [List.getElem?_toArray]
    exact h
  · have := List.all_eq_true.mp (K_live P) p hp
    simpa using this
theorem hookY (w : World) (os : OsState) : (kHook K Kas Kas_eq).obs (endS w os) = (kHook K Kas Kas_eq).val w := by
  show Kas.map (H1 w.params).get? = (K w.params).map fun p => some p.2
  rw [Kas_eq w.params, List.map_map]
  exact List.map_congr_left fun p hp => K_at w.params p hp
abbrev rw4 : OpenRow := PySem.Challenge.rw_im0095_03.row
noncomputable def dLaw : DefRec := ((defOf q rw4.name).map (·.1)).getD ⟨default, default, default, default, default⟩
theorem hdef : defOf q rw4.name = some (dLaw, []) := by kernel_rfl
theorem hthe : rw4.prog.theDef rw4.name = some (dLaw.params, dLaw.body, dLaw.scope) := by kernel_rfl
theorem hkw : kwWritten? dLaw.params.kwonlyargs dLaw.params.kw_defaults = some [] := by kernel_rfl
theorem ok1 : (chainsOk q && opensWell rw4.prog && (frees rw4.toRowW && rw4.within.isEmpty)) = true := by kernel_rfl
theorem bare : rw4.prog.bare := ⟨rfl, rfl, rfl, rfl, rfl, tabs⟩
theorem hd1 (said : rw4.wellSaid = true) (W : WalkO q looseQ (XL q []) (kHook K Kas Kas_eq).says rw4.toRowW dLaw [] (fun f vs => PySem.call f vs)) : rw4.Holds := by
  exact PySem.W.holds_open (q := q) (loose := looseQ) (Xt := XtQ) (XP := XL q []) (Yf := (kHook K Kas Kas_eq).obs) (Ya := (kHook K Kas Kas_eq).val) (YP := (kHook K Kas Kas_eq).says) (N := 20000) (left hookY) (kHook K Kas Kas_eq).of (kHook K Kas Kas_eq).keeps
    (fun s e => xl_of s (Bool.and_eq_true_iff.mp e).1) XL.keeps hdef hthe hkw (fun s e => recFacts_of (Bool.and_eq_true_iff.mp e).2) rfl said ok1 bare (by w_witness2) W
theorem hd (W : WalkO q looseQ (XL q []) (kHook K Kas Kas_eq).says rw4.toRowW dLaw [] (fun f vs => PySem.call f vs)) : PySem.Challenge.rw_im0095_03.Holds := holds_law said fun s => hd1 s W
noncomputable def fnOfDef (a0 : Nat) : Stmt → Option Fn
  | .FunctionDef name args body _ _ _ scope _ _ _ => some { a := a0 + 6, name, qual := Str.ofString "MPU." ++ name, params := args, body, cs := scope, dV := .none, kV := .none, doc := .none, pm := modV, an := none, cd := .ref (a0 + 5), ct := .none, xs := args.args.map (·.arg), rest := (scope.names.filter fun p => p.2 == .local && !(args.args.map (·.arg)).contains p.1).map (·.1) }
  | _ => none
noncomputable def hasDflt : Stmt → Bool
  | .FunctionDef _ args _ _ _ _ _ _ _ _ => !args.defaults.isEmpty
  | _ => false
noncomputable def frcN {α : Type} (n : Nat) (f : Nat → α) : α := match n with
  | 0 => f 0
  | k + 1 => f (k + 1)
noncomputable def fnsFrom : Nat → List Stmt → List Fn
  | _, [] => []
  | a, st :: r => frcN a fun a => match hasDflt st with
    | true => fnsFrom (a + 8) r
    | false => match fnOfDef a st with
      | some F => F :: fnsFrom (a + 7) r
      | none => []
noncomputable def isIn (l : List Nat) (a : Nat) : Bool := match l with
  | [] => false
  | b :: r => match Nat.beq b a with
    | true => true
    | false => isIn r a
noncomputable def keepFns (l : List Nat) : List Fn → List Fn
  | [] => []
  | F :: r => match isIn l F.a with
    | true => F :: keepFns l r
    | false => keepFns l r
noncomputable def fnsC : List Fn := keepFns Kas (fnsFrom 29 (clsBody.drop 15))
noncomputable def numT : List (Str × Int × Nat) := [(Str.ofString "RESET", 65532, 208), (Str.ofString "NMI", 65530, 210), (Str.ofString "IRQ", 65534, 212), (Str.ofString "NEGATIVE", 128, 214), (Str.ofString "OVERFLOW", 64, 216), (Str.ofString "UNUSED", 32, 218), (Str.ofString "BREAK", 16, 220), (Str.ofString "DECIMAL", 8, 222), (Str.ofString "INTERRUPT", 4, 224), (Str.ofString "ZERO", 2, 226), (Str.ofString "CARRY", 1, 228), (Str.ofString "BYTE_WIDTH", 8, 230), (Str.ofString "ADDR_WIDTH", 16, 234)]
noncomputable def refsOf (l : List Value) : List Addr := l.filterMap fun v => match v with
  | .ref a => some a
  | _ => none
noncomputable def intsOf (l : List Value) : List Int := l.filterMap fun v => match v with
  | .int i _ => some i
  | _ => none
noncomputable def T4 : Tab where
  C := 1428
  own := [Str.ofString "name", Str.ofString "byteMask", Str.ofString "addrMask", Str.ofString "addrHighMask", Str.ofString "spBase", Str.ofString "excycles", Str.ofString "addcycles", Str.ofString "processorCycles", Str.ofString "memory", Str.ofString "start_pc", Str.ofString "pc", Str.ofString "sp", Str.ofString "a", Str.ofString "x", Str.ofString "y", Str.ofString "p"]
  nums := numT.map fun p => (p.1, p.2.1)
  refs := [(Str.ofString "instruct", 1423), (Str.ofString "cycletime", 1424), (Str.ofString "extracycles", 1425)]
  meths := fnsC.map fun F => (F.name, F.a)
  globs := []
  blts := []
  fns := fnsC
  lists := [(1423, .refs (refsOf lateL1423)), (1424, .nums (intsOf lateL1424)), (1425, .nums (intsOf lateL1425))]
theorem all_of {α : Type} {l : List α} {f : α → Bool} (h : l.all f = true) : ∀ x ∈ l, f x = true := List.all_eq_true.mp h
theorem map_of {α β : Type} {l : List α} {f g : α → β} (h : l.map f = l.map g) : ∀ x ∈ l, f x = g x := List.map_inj_left.mp h
theorem t_own (P : Params) : (T4.own.all fun x => ownName (K P) 1428 x && setName (K P) 1428 x) = true := by kernel_rfl
theorem t_nums (P : Params) : (numT.all fun p => clsName (K P) 1428 p.1 (.int p.2.1 p.2.2)) = true := by kernel_rfl
theorem t_refs (P : Params) : (T4.refs.all fun p => clsName (K P) 1428 p.1 (.ref p.2)) = true := by kernel_rfl
theorem t_meths (P : Params) : (T4.meths.all fun p => methName (K P) 1428 p.1 p.2) = true := by kernel_rfl
theorem t_keep (P : Params) : (fnsC.all fun F => keepIn (K P) (.ref F.a) && fnIn (K P) F.a && codeIn (K P) F.cd F.qual) = true := by kernel_rfl
theorem t_at (P : Params) : (fnsC.map fun F => (K P).lookup F.a) = fnsC.map fun F => some F.obj := by kernel_rfl
noncomputable def scOk (F : Fn) : Bool := (F.xs.all fun y => F.cs.names.lookup y == some .local) && (F.cs.names.all fun y => y.2 != .cell) && !F.cs.isCoroutine && !F.cs.isGenerator && (F.cs.kind == .function) && decide (F.xs ++ F.rest).Nodup && Nat.ble F.xs.length 4
theorem t_sc : (fnsC.all scOk) = true := by kernel_rfl
theorem t_bind : (fnsC.map fun F => fun (v w x y : Value) => bindArgs F.data ⟨[v, w, x, y].take F.xs.length, []⟩) = fnsC.map fun F => fun v w x y => pure (F.xs.zip ([v, w, x, y].take F.xs.length)) := by kernel_rfl
theorem pad4 : ∀ {vs : List Value} {k : Nat}, vs.length = k → k ≤ 4 → ∃ v w x y, vs = [v, w, x, y].take k
  | [], _, h, _ => ⟨.none, .none, .none, .none, by subst h; rfl⟩
  | [v], _, h, _ => ⟨v, .none, .none, .none, by subst h; rfl⟩
  | [v, w], _, h, _ => ⟨v, w, .none, .none, by subst h; rfl⟩
  | [v, w, x], _, h, _ => ⟨v, w, x, .none, by subst h; rfl⟩
  | [v, w, x, y], _, h, _ => ⟨v, w, x, y, by subst h; rfl⟩
  | v :: w :: x :: y :: z :: r, k, h, h4 => by simp at h; lia
theorem fnsC_ok : ∀ F ∈ fnsC, FnOk K F ∧ ∀ P, keepIn (K P) (.ref F.a) = true ∧ fnIn (K P) F.a = true := by
  intro F hF
  have s := all_of t_sc F hF
  unfold scOk at s
  simp only [Bool.and_eq_true, Bool.not_eq_true', beq_iff_eq, decide_eq_true_eq, List.all_eq_true, bne_iff_ne] at s
  obtain ⟨⟨⟨⟨⟨⟨s1, s2⟩, s3⟩, s4⟩, s5⟩, s6⟩, s7⟩ := s
  have kp := fun P => all_of (t_keep P) F hF
  simp only [Bool.and_eq_true] at kp
  refine ⟨⟨fun P => map_of (t_at P) F hF, fun P => (kp P).2, fun vs hv => ?_, s1, s6, s2, s3, s4, s5⟩, fun P => (kp P).1⟩
  obtain ⟨v, w, x, y, rfl⟩ := pad4 hv (Nat.le_of_ble_eq_true s7)
  have := map_of t_bind F hF
  exact congrFun (congrFun (congrFun (congrFun this v) w) x) y
theorem t_l1 (P : Params) : (K P).lookup 1423 = some (⟨.type "list", none, .seq ((refsOf lateL1423).map Value.ref).toArray, #[]⟩ : Obj) := by kernel_rfl
theorem t_l2 (P : Params) : (K P).lookup 1424 = some (⟨.type "list", none, .seq lateL1424.toArray, #[]⟩ : Obj) := by kernel_rfl
theorem t_l3 (P : Params) : (K P).lookup 1425 = some (⟨.type "list", none, .seq lateL1425.toArray, #[]⟩ : Obj) := by kernel_rfl
theorem t_n2 : numsOf lateL1424 = some (intsOf lateL1424) := by kernel_rfl
theorem t_n3 : numsOf lateL1425 = some (intsOf lateL1425) := by kernel_rfl
theorem t_one (P : Params) : ((K P).lookup sysModules).isSome = true := by kernel_rfl
theorem T4_ok : TabOk K T4 where
  one := t_one
  own := fun x hx => ⟨fun P => (Bool.and_eq_true_iff.mp (all_of (t_own P) x hx)).1, fun P => (Bool.and_eq_true_iff.mp (all_of (t_own P) x hx)).2⟩
  nums := fun p hp => by
    obtain ⟨q, hq, rfl⟩ := List.mem_map.mp hp
    exact ⟨q.2.2, fun P => all_of (t_nums P) q hq⟩
  refs := fun p hp P => all_of (t_refs P) p hp
  meths := fun p hp P => all_of (t_meths P) p hp
  globs := fun _ h => nomatch h
  blts := fun _ h => nomatch h
  fns := fnsC_ok
  lists := fun p hp => by
    rcases List.mem_cons.mp hp with rfl | hp
    · exact t_l1
    · rcases List.mem_cons.mp hp with rfl | hp
      · exact ⟨_, t_n2, t_l2⟩
      · rcases List.mem_cons.mp hp with rfl | hp
        · exact ⟨_, t_n3, t_l3⟩
        · cases hp
structure M where
  a : Int
  x : Int
  y : Int
  sp : Int
  p : Int
  pc : Int
  mem : List Int
noncomputable def attrsM (m : M) (st : Int) (ex ad : AV) : List (Str × AV) := [(Str.ofString "name", .str (Str.ofString "6502")), (Str.ofString "byteMask", .cint 255), (Str.ofString "addrMask", .cint 65535), (Str.ofString "addrHighMask", .cint 65280), (Str.ofString "spBase", .cint 256), (Str.ofString "excycles", ex), (Str.ofString "addcycles", ad), (Str.ofString "processorCycles", .any), (Str.ofString "memory", .obj 0), (Str.ofString "start_pc", .int st), (Str.ofString "pc", .int m.pc), (Str.ofString "sp", .int m.sp), (Str.ofString "a", .int m.a), (Str.ofString "x", .int m.x), (Str.ofString "y", .int m.y), (Str.ofString "p", .int m.p)]
noncomputable def outM (m : M) (st : Int) (ex ad : AV) : List AO := [.il m.mem, .inst 1428 2, .attrs (attrsM m st ex ad)]
noncomputable def objM (m : M) (st : Int) : List AO := outM m st .any .top
noncomputable abbrev E := evN pw K T4
noncomputable def Stp (m m' : M) : Prop := ∀ st : Int, CallT pw K 25 43 [.obj 1] (objM m st) (.obj 1) (objM m' st)
noncomputable def stp (m : M) (st : Int) (o : Orc) := (E 25).c 43 [.obj 1] (objM m st) o
theorem stp_of {m m' : M} {o : Orc} {ex ad : Int} {junk : List AO} {g : List Prop} (e : ∀ st, stp m st o = some (.obj 1, outM m' st (.cint ex) (.cint ad) ++ junk, [], g)) (hg : ∀ p ∈ g, p) : Stp m m' := by
  intro st
  have h := ((evN_ok (prog := pw) T4_ok 25).c (e st) hg).1
  have h3 := h.drop 3 (Nat.le_refl _) rfl (by rfl)
  have w : WkOs (outM m' st (.cint ex) (.cint ad)) (objM m' st) := by
    refine .cons .refl (.cons .refl (.cons (WkEs.attrs ?_) .nil))
    exact .cons .refl (.cons .refl (.cons .refl (.cons .refl (.cons .refl (.cons .anyC (.cons .top .refl))))))
  exact h3.wk w
theorem Stp.to {m a b : M} (h : Stp m a) (e : a = b) : Stp m b := e ▸ h
noncomputable def get (mem : List Int) (i : Int) : Int := mem.getD i.toNat 0
noncomputable def Pf (n z c : Bool) : Int := 48 + (match n with | true => 128 | false => 0) + (match z with | true => 2 | false => 0) + (match c with | true => 1 | false => 0)
noncomputable def Pz (v : Int) (c : Bool) : Int := Pf (decide (128 ≤ v)) (v == 0) c
theorem and128_all : ∀ n : Fin 512, Builtin.bitAnd ((n.val : Int) - 256) 128 = (if 128 ≤ ((n.val : Int) - 256) % 256 then 128 else 0) := by decide +kernel
theorem and128 {d : Int} (h0 : -256 ≤ d) (h1 : d < 256) : Builtin.bitAnd d 128 = (if 128 ≤ d % 256 then 128 else 0) := by
  have h := and128_all ⟨(d + 256).toNat, by lia⟩
  have e : (((d + 256).toNat : Nat) : Int) - 256 = d := by lia
  rw [e] at h
  exact h
theorem and128v {v : Int} (h0 : 0 ≤ v) (h1 : v < 256) : Builtin.bitAnd v 128 = (if 128 ≤ v then 128 else 0) := by
  rw [and128 (by lia) h1, Int.emod_eq_of_lt h0 h1]
theorem p_nz (n z c k : Bool) : Builtin.bitOr (Builtin.bitAnd (Pf n z c) (Builtin.bitNot (Builtin.bitOr 2 128))) (match k with | true => 128 | false => 0) = Pf k false c := by
  cases n <;> cases z <;> cases c <;> cases k <;> decide +kernel
theorem p_nzT (n z c : Bool) : Builtin.bitOr (Builtin.bitAnd (Pf n z c) (Builtin.bitNot (Builtin.bitOr 2 128))) 2 = Pf false true c := by
  cases n <;> cases z <;> cases c <;> decide +kernel
theorem p_nzF {n z c : Bool} {v : Int} (h0 : 0 ≤ v) (h1 : v < 256) : Builtin.bitOr (Builtin.bitAnd (Pf n z c) (Builtin.bitNot (Builtin.bitOr 2 128))) (Builtin.bitAnd v 128) = Pf (decide (128 ≤ v)) false c := by
  rw [and128v h0 h1]
  by_cases h : 128 ≤ v
  · rw [if_pos h, decide_eq_true h]; exact p_nz n z c true
  · rw [if_neg h, decide_eq_false h]; exact p_nz n z c false
theorem p_z (n z c : Bool) : (Builtin.bitAnd (Pf n z c) 2 != 0) = z := by
  cases n <;> cases z <;> cases c <;> decide +kernel
theorem p_cmE (n z c k : Bool) : Builtin.bitOr (Builtin.bitOr (Builtin.bitAnd (Pf n z c) (Builtin.bitNot (Builtin.bitOr (Builtin.bitOr 1 2) 128))) (Builtin.bitOr 1 2)) (match k with | true => 128 | false => 0) = Pf k true true := by
  cases n <;> cases z <;> cases c <;> cases k <;> decide +kernel
theorem p_cmG (n z c k : Bool) : Builtin.bitOr (Builtin.bitOr (Builtin.bitAnd (Pf n z c) (Builtin.bitNot (Builtin.bitOr (Builtin.bitOr 1 2) 128))) 1) (match k with | true => 128 | false => 0) = Pf k false true := by
  cases n <;> cases z <;> cases c <;> cases k <;> decide +kernel
theorem p_cmL (n z c k : Bool) : Builtin.bitOr (Builtin.bitAnd (Pf n z c) (Builtin.bitNot (Builtin.bitOr (Builtin.bitOr 1 2) 128))) (match k with | true => 128 | false => 0) = Pf k false false := by
  cases n <;> cases z <;> cases c <;> cases k <;> decide +kernel
/-- the flags that a comparison of r with t leaves -/
noncomputable def Pc (r t : Int) : Int := Pf (decide (128 ≤ (r - t) % 256)) (r == t) (decide (t ≤ r))
theorem sub128 {r t : Int} (hr : 0 ≤ r ∧ r < 256) (ht : 0 ≤ t ∧ t < 256) : Builtin.bitAnd (r - t) 128 = (match decide (128 ≤ (r - t) % 256) with | true => 128 | false => 0) := by
  rw [and128 (by lia) (by lia)]
  by_cases h : 128 ≤ (r - t) % 256
  · rw [if_pos h, decide_eq_true h]
  · rw [if_neg h, decide_eq_false h]
theorem p_cE {n z c : Bool} {r t : Int} (hr : 0 ≤ r ∧ r < 256) (ht : 0 ≤ t ∧ t < 256) (h : (r == t) = true) : Builtin.bitOr (Builtin.bitOr (Builtin.bitAnd (Pf n z c) (Builtin.bitNot (Builtin.bitOr (Builtin.bitOr 1 2) 128))) (Builtin.bitOr 1 2)) (Builtin.bitAnd (r - t) 128) = Pc r t := by
  rw [sub128 hr ht, p_cmE]
  unfold Pc
  rw [h, decide_eq_true (p := t ≤ r) (by have := beq_iff_eq.mp h; lia)]
theorem p_cG {n z c : Bool} {r t : Int} (hr : 0 ≤ r ∧ r < 256) (ht : 0 ≤ t ∧ t < 256) (h : (r == t) = false) (h2 : decide (t < r) = true) : Builtin.bitOr (Builtin.bitOr (Builtin.bitAnd (Pf n z c) (Builtin.bitNot (Builtin.bitOr (Builtin.bitOr 1 2) 128))) 1) (Builtin.bitAnd (r - t) 128) = Pc r t := by
  rw [sub128 hr ht, p_cmG]
  unfold Pc
  rw [h, decide_eq_true (p := t ≤ r) (by have := of_decide_eq_true h2; lia)]
theorem p_cL {n z c : Bool} {r t : Int} (hr : 0 ≤ r ∧ r < 256) (ht : 0 ≤ t ∧ t < 256) (h : (r == t) = false) (h2 : decide (t < r) = false) : Builtin.bitOr (Builtin.bitAnd (Pf n z c) (Builtin.bitNot (Builtin.bitOr (Builtin.bitOr 1 2) 128))) (Builtin.bitAnd (r - t) 128) = Pc r t := by
  rw [sub128 hr ht, p_cmL]
  unfold Pc
  have e : r ≠ t := by simpa using h
  rw [h, decide_eq_false (p := t ≤ r) (by have := of_decide_eq_false h2; lia)]
theorem and255 (i : Int) : Builtin.bitAnd i 255 = i % 256 := bitAnd_m8 i
theorem and65535 (i : Int) : Builtin.bitAnd i 65535 = i % 65536 := bitAnd_m16 i
theorem xor255_all : ∀ n : Fin 256, Builtin.bitXor (n.val : Int) 255 = 255 - (n.val : Int) := by decide +kernel
theorem xor255 {v : Int} (h0 : 0 ≤ v) (h1 : v < 256) : Builtin.bitXor v 255 = 255 - v := by
  have h := xor255_all ⟨v.toNat, by lia⟩
  have e : ((v.toNat : Nat) : Int) = v := by lia
  rw [e] at h
  exact h
structure Fetch (mem : List Int) (pc op : Int) : Prop where
  lo : 0 ≤ pc
  hi : pc + 2 < mem.length
  sz : (mem.length : Int) ≤ 60000
  op : get mem pc = op
theorem gc {a : Prop} {l : List Prop} (h : a) (t : ∀ p ∈ l, p) : ∀ p ∈ a :: l, p := List.forall_mem_cons.mpr ⟨h, t⟩
theorem g0 : ∀ p ∈ ([] : List Prop), p := fun _ h => nomatch h
section
variable {mem : List Int} {pc op : Int}
theorem Fetch.b0 (F : Fetch mem pc op) : InB mem.length pc := ⟨F.lo, by have := F.hi; lia, by have := F.hi; have := F.sz; lia⟩
theorem Fetch.i (F : Fetch mem pc op) : Builtin.bitAnd (pc + 1) 65535 = pc + 1 := by rw [and65535]; have := F.lo; have := F.hi; have := F.sz; lia
theorem Fetch.b1 (F : Fetch mem pc op) : InB mem.length (Builtin.bitAnd (pc + 1) 65535) := by rw [F.i]; exact ⟨by have := F.lo; lia, by have := F.hi; lia, by have := F.hi; have := F.sz; lia⟩
theorem Fetch.b2 (F : Fetch mem pc op) : InB mem.length (Builtin.bitAnd (pc + 1) 65535 + 1) := by rw [F.i]; exact ⟨by have := F.lo; lia, by have := F.hi; lia, by have := F.hi; have := F.sz; lia⟩
theorem Fetch.p1 (F : Fetch mem pc op) : Builtin.bitAnd (Builtin.bitAnd (pc + 1) 65535) 65535 = pc + 1 := by rw [F.i, F.i]
theorem Fetch.p2 (F : Fetch mem pc op) : Builtin.bitAnd (Builtin.bitAnd (pc + 1) 65535 + 1) 65535 = pc + 2 := by rw [F.i, and65535]; have := F.lo; have := F.hi; have := F.sz; lia
theorem Fetch.p3 (F : Fetch mem pc op) : Builtin.bitAnd (Builtin.bitAnd (pc + 1) 65535 + 2) 65535 = pc + 3 := by rw [F.i, and65535]; have := F.lo; have := F.hi; have := F.sz; lia
theorem Fetch.r1 (F : Fetch mem pc op) {v : Int} (h : get mem (pc + 1) = v) : mem.getD (Builtin.bitAnd (pc + 1) 65535).toNat 0 = v := by rw [F.i]; exact h
theorem Fetch.r2 (F : Fetch mem pc op) {v : Int} (h : get mem (pc + 2) = v) : mem.getD (Builtin.bitAnd (pc + 1) 65535 + 1).toNat 0 = v := by rw [F.i]; rw [show pc + 1 + 1 = pc + 2 by lia]; exact h
end
theorem inB_of {n k : Int} (h0 : 0 ≤ k) (h1 : k < n) (h2 : n ≤ 60000) : InB n k := ⟨h0, h1, by lia⟩
theorem mk_eq {a a' x x' y y' sp sp' p p' pc pc' : Int} {mem mem' : List Int} (h1 : a = a') (h2 : x = x') (h3 : y = y') (h4 : sp = sp') (h5 : p = p') (h6 : pc = pc') (h7 : mem = mem') : (⟨a, x, y, sp, p, pc, mem⟩ : M) = ⟨a', x', y', sp', p', pc', mem'⟩ := by subst h1 h2 h3 h4 h5 h6 h7; rfl
theorem get_set2 {mem : List Int} {i j k : Int} {u v : Int} (hi : 0 ≤ i) (hj : 0 ≤ j) (hk : 0 ≤ k) (h1 : i ≠ j) (h2 : i ≠ k) : ((mem.set j.toNat u).set k.toNat v).getD i.toNat 0 = get mem i := by
  unfold get
  rw [List.getD_eq_getElem?_getD, List.getD_eq_getElem?_getD, List.getElem?_set_ne (by lia), List.getElem?_set_ne (by lia)]
theorem and255c (i : Int) : Builtin.bitAnd 255 i = i % 256 := bitAnd_m8' i
theorem emod_nn {u v : Int} (h : u % 256 = v) : 0 ≤ v := by lia
theorem emod_lt {u v : Int} (h : u % 256 = v) : v < 256 := by lia
theorem bne_F {v : Int} (h : (v != 0) = false) : (v == 0) = true := by simpa using h
theorem bne_T {v : Int} (h : (v != 0) = true) : (v == 0) = false := by simpa using h
theorem pz_T {v : Int} {n z c : Bool} (h : (v == 0) = true) : Builtin.bitOr (Builtin.bitAnd (Pf n z c) (Builtin.bitNot (Builtin.bitOr 2 128))) 2 = Pz v c := by
  have e := beq_iff_eq.mp h
  rw [p_nzT]; unfold Pz; rw [h, decide_eq_false (by lia)]
theorem pz_F {v : Int} {n z c : Bool} (h0 : 0 ≤ v) (h1 : v < 256) (h : (v == 0) = false) : Builtin.bitOr (Builtin.bitAnd (Pf n z c) (Builtin.bitNot (Builtin.bitOr 2 128))) (Builtin.bitAnd v 128) = Pz v c := by
  rw [p_nzF h0 h1]; unfold Pz; rw [h]
section
variable {a x y sp pc st : Int} {n z c : Bool} {mem : List Int}
theorem s_txa {v : Int} (F : Fetch mem pc 138) (hv : x = v) (h0 : 0 ≤ v) (h1 : v < 256) : Stp ⟨a, x, y, sp, Pf n z c, pc, mem⟩ ⟨v, x, y, sp, Pz v c, pc + 1, mem⟩ := by
  have ev : x = v := hv
  cases hz : (x == 0) with
  | true =>
    refine (stp_of (m := ⟨a, x, y, sp, Pf n z c, pc, mem⟩) (m' := ⟨x, x, y, sp, (Builtin.bitOr (Builtin.bitAnd (Pf n z c) (Builtin.bitNot (Builtin.bitOr 2 128))) 2), (Builtin.bitAnd (Builtin.bitAnd (pc + 1) 65535) 65535), mem⟩) (o := [.k 138, .b true]) (ex := 0) (ad := 0) (junk := []) (hg := (gc F.b0 (gc F.op (gc hz g0)))) (e := fun st => by kernel_rfl)).to ?_
    rw [ev] at hz
    refine mk_eq ev rfl rfl rfl (pz_T hz) F.p1 rfl
  | false =>
    refine (stp_of (m := ⟨a, x, y, sp, Pf n z c, pc, mem⟩) (m' := ⟨x, x, y, sp, (Builtin.bitOr (Builtin.bitAnd (Pf n z c) (Builtin.bitNot (Builtin.bitOr 2 128))) (Builtin.bitAnd x 128)), (Builtin.bitAnd (Builtin.bitAnd (pc + 1) 65535) 65535), mem⟩) (o := [.k 138, .b false]) (ex := 0) (ad := 0) (junk := []) (hg := (gc F.b0 (gc F.op (gc hz g0)))) (e := fun st => by kernel_rfl)).to ?_
    rw [ev] at hz
    refine mk_eq ev rfl rfl rfl (by rw [ev]; exact pz_F (by lia) (by lia) hz) F.p1 rfl
theorem s_tax {v : Int} (F : Fetch mem pc 170) (hv : a = v) (h0 : 0 ≤ v) (h1 : v < 256) : Stp ⟨a, x, y, sp, Pf n z c, pc, mem⟩ ⟨a, v, y, sp, Pz v c, pc + 1, mem⟩ := by
  have ev : a = v := hv
  cases hz : (a == 0) with
  | true =>
    refine (stp_of (m := ⟨a, x, y, sp, Pf n z c, pc, mem⟩) (m' := ⟨a, a, y, sp, (Builtin.bitOr (Builtin.bitAnd (Pf n z c) (Builtin.bitNot (Builtin.bitOr 2 128))) 2), (Builtin.bitAnd (Builtin.bitAnd (pc + 1) 65535) 65535), mem⟩) (o := [.k 170, .b true]) (ex := 0) (ad := 0) (junk := []) (hg := (gc F.b0 (gc F.op (gc hz g0)))) (e := fun st => by kernel_rfl)).to ?_
    rw [ev] at hz
    refine mk_eq rfl ev rfl rfl (pz_T hz) F.p1 rfl
  | false =>
    refine (stp_of (m := ⟨a, x, y, sp, Pf n z c, pc, mem⟩) (m' := ⟨a, a, y, sp, (Builtin.bitOr (Builtin.bitAnd (Pf n z c) (Builtin.bitNot (Builtin.bitOr 2 128))) (Builtin.bitAnd a 128)), (Builtin.bitAnd (Builtin.bitAnd (pc + 1) 65535) 65535), mem⟩) (o := [.k 170, .b false]) (ex := 0) (ad := 0) (junk := []) (hg := (gc F.b0 (gc F.op (gc hz g0)))) (e := fun st => by kernel_rfl)).to ?_
    rw [ev] at hz
    refine mk_eq rfl ev rfl rfl (by rw [ev]; exact pz_F (by lia) (by lia) hz) F.p1 rfl
theorem s_tsx {v : Int} (F : Fetch mem pc 186) (hv : sp = v) (h0 : 0 ≤ v) (h1 : v < 256) : Stp ⟨a, x, y, sp, Pf n z c, pc, mem⟩ ⟨a, v, y, sp, Pz v c, pc + 1, mem⟩ := by
  have ev : sp = v := hv
  cases hz : (sp == 0) with
  | true =>
    refine (stp_of (m := ⟨a, x, y, sp, Pf n z c, pc, mem⟩) (m' := ⟨a, sp, y, sp, (Builtin.bitOr (Builtin.bitAnd (Pf n z c) (Builtin.bitNot (Builtin.bitOr 2 128))) 2), (Builtin.bitAnd (Builtin.bitAnd (pc + 1) 65535) 65535), mem⟩) (o := [.k 186, .b true]) (ex := 0) (ad := 0) (junk := []) (hg := (gc F.b0 (gc F.op (gc hz g0)))) (e := fun st => by kernel_rfl)).to ?_
    rw [ev] at hz
    refine mk_eq rfl ev rfl rfl (pz_T hz) F.p1 rfl
  | false =>
    refine (stp_of (m := ⟨a, x, y, sp, Pf n z c, pc, mem⟩) (m' := ⟨a, sp, y, sp, (Builtin.bitOr (Builtin.bitAnd (Pf n z c) (Builtin.bitNot (Builtin.bitOr 2 128))) (Builtin.bitAnd sp 128)), (Builtin.bitAnd (Builtin.bitAnd (pc + 1) 65535) 65535), mem⟩) (o := [.k 186, .b false]) (ex := 0) (ad := 0) (junk := []) (hg := (gc F.b0 (gc F.op (gc hz g0)))) (e := fun st => by kernel_rfl)).to ?_
    rw [ev] at hz
    refine mk_eq rfl ev rfl rfl (by rw [ev]; exact pz_F (by lia) (by lia) hz) F.p1 rfl
theorem s_txs (F : Fetch mem pc 154)  : Stp ⟨a, x, y, sp, Pf n z c, pc, mem⟩ ⟨a, x, y, x, Pf n z c, pc + 1, mem⟩ := by
  refine (stp_of (m := ⟨a, x, y, sp, Pf n z c, pc, mem⟩) (m' := ⟨a, x, y, x, Pf n z c, (Builtin.bitAnd (Builtin.bitAnd (pc + 1) 65535) 65535), mem⟩) (o := [.k 154]) (ex := 0) (ad := 0) (junk := []) (hg := (gc F.b0 (gc F.op g0))) (e := fun st => by kernel_rfl)).to ?_
  exact mk_eq rfl rfl rfl rfl rfl F.p1 rfl
theorem s_pha (F : Fetch mem pc 72) {s : Int} (hs : (sp - 1) % 256 = s) (ha : 0 ≤ a) (ha1 : a < 256) (hp : 0 ≤ sp) (hp1 : sp + 256 < mem.length) : Stp ⟨a, x, y, sp, Pf n z c, pc, mem⟩ ⟨a, x, y, s, Pf n z c, pc + 1, mem.set (sp + 256).toNat a⟩ := by
  have ib : InB mem.length (sp + 256) := inB_of (by lia) hp1 F.sz
  have ea : Builtin.bitAnd a 255 = a := by rw [and255]; lia
  refine (stp_of (m := ⟨a, x, y, sp, Pf n z c, pc, mem⟩) (m' := ⟨a, x, y, Builtin.bitAnd (sp - 1) 255, Pf n z c, (Builtin.bitAnd (Builtin.bitAnd (pc + 1) 65535) 65535), mem.set (sp + 256).toNat (Builtin.bitAnd a 255)⟩) (o := [.k 72]) (ex := 0) (ad := 0) (junk := []) (hg := (gc F.b0 (gc F.op (gc ib g0)))) (e := fun st => by kernel_rfl)).to ?_
  exact mk_eq rfl rfl rfl (by rw [and255]; exact hs) rfl F.p1 (by rw [ea])
theorem s_pla {v s : Int} (F : Fetch mem pc 104) (hs : (sp + 1) % 256 = s) (hv : get mem (s + 256) = v) (h0 : 0 ≤ v) (h1 : v < 256) (hp1 : s + 256 < mem.length) : Stp ⟨a, x, y, sp, Pf n z c, pc, mem⟩ ⟨v, x, y, s, Pz v c, pc + 1, mem⟩ := by
  have es : Builtin.bitAnd (sp + 1) 255 = s := by rw [and255]; exact hs
  have ev : (mem.getD (Builtin.bitAnd (sp + 1) 255 + 256).toNat 0) = v := by rw [es]; exact hv
  have ib : InB mem.length (Builtin.bitAnd (sp + 1) 255 + 256) := by rw [es]; exact inB_of (by lia) hp1 F.sz
  cases hz : ((mem.getD (Builtin.bitAnd (sp + 1) 255 + 256).toNat 0) == 0) with
  | true =>
    refine (stp_of (m := ⟨a, x, y, sp, Pf n z c, pc, mem⟩) (m' := ⟨(mem.getD (Builtin.bitAnd (sp + 1) 255 + 256).toNat 0), x, y, Builtin.bitAnd (sp + 1) 255, (Builtin.bitOr (Builtin.bitAnd (Pf n z c) (Builtin.bitNot (Builtin.bitOr 2 128))) 2), (Builtin.bitAnd (Builtin.bitAnd (pc + 1) 65535) 65535), mem⟩) (o := [.k 104, .b true]) (ex := 0) (ad := 0) (junk := []) (hg := (gc F.b0 (gc F.op (gc ib (gc hz g0))))) (e := fun st => by kernel_rfl)).to ?_
    rw [ev] at hz
    refine mk_eq ev rfl rfl es (pz_T hz) F.p1 rfl
  | false =>
    refine (stp_of (m := ⟨a, x, y, sp, Pf n z c, pc, mem⟩) (m' := ⟨(mem.getD (Builtin.bitAnd (sp + 1) 255 + 256).toNat 0), x, y, Builtin.bitAnd (sp + 1) 255, (Builtin.bitOr (Builtin.bitAnd (Pf n z c) (Builtin.bitNot (Builtin.bitOr 2 128))) (Builtin.bitAnd (mem.getD (Builtin.bitAnd (sp + 1) 255 + 256).toNat 0) 128)), (Builtin.bitAnd (Builtin.bitAnd (pc + 1) 65535) 65535), mem⟩) (o := [.k 104, .b false]) (ex := 0) (ad := 0) (junk := []) (hg := (gc F.b0 (gc F.op (gc ib (gc hz g0))))) (e := fun st => by kernel_rfl)).to ?_
    rw [ev] at hz
    refine mk_eq ev rfl rfl es (by rw [ev]; exact pz_F (by lia) (by lia) hz) F.p1 rfl
theorem s_lda {v : Int} (F : Fetch mem pc 169) (hv : get mem (pc + 1) = v) (h0 : 0 ≤ v) (h1 : v < 256) : Stp ⟨a, x, y, sp, Pf n z c, pc, mem⟩ ⟨v, x, y, sp, Pz v c, pc + 2, mem⟩ := by
  have ev : (mem.getD (Builtin.bitAnd (pc + 1) 65535).toNat 0) = v := F.r1 hv
  cases hz : ((mem.getD (Builtin.bitAnd (pc + 1) 65535).toNat 0) == 0) with
  | true =>
    refine (stp_of (m := ⟨a, x, y, sp, Pf n z c, pc, mem⟩) (m' := ⟨(mem.getD (Builtin.bitAnd (pc + 1) 65535).toNat 0), x, y, sp, (Builtin.bitOr (Builtin.bitAnd (Pf n z c) (Builtin.bitNot (Builtin.bitOr 2 128))) 2), (Builtin.bitAnd ((Builtin.bitAnd (pc + 1) 65535) + 1) 65535), mem⟩) (o := [.k 169, .b true]) (ex := 0) (ad := 0) (junk := [.meth 92 (.obj 1)]) (hg := (gc F.b0 (gc F.op (gc F.b1 (gc hz g0))))) (e := fun st => by kernel_rfl)).to ?_
    rw [ev] at hz
    refine mk_eq ev rfl rfl rfl (pz_T hz) F.p2 rfl
  | false =>
    refine (stp_of (m := ⟨a, x, y, sp, Pf n z c, pc, mem⟩) (m' := ⟨(mem.getD (Builtin.bitAnd (pc + 1) 65535).toNat 0), x, y, sp, (Builtin.bitOr (Builtin.bitAnd (Pf n z c) (Builtin.bitNot (Builtin.bitOr 2 128))) (Builtin.bitAnd (mem.getD (Builtin.bitAnd (pc + 1) 65535).toNat 0) 128)), (Builtin.bitAnd ((Builtin.bitAnd (pc + 1) 65535) + 1) 65535), mem⟩) (o := [.k 169, .b false]) (ex := 0) (ad := 0) (junk := [.meth 92 (.obj 1)]) (hg := (gc F.b0 (gc F.op (gc F.b1 (gc hz g0))))) (e := fun st => by kernel_rfl)).to ?_
    rw [ev] at hz
    refine mk_eq ev rfl rfl rfl (by rw [ev]; exact pz_F (by lia) (by lia) hz) F.p2 rfl
theorem s_ldy {v : Int} (F : Fetch mem pc 160) (hv : get mem (pc + 1) = v) (h0 : 0 ≤ v) (h1 : v < 256) : Stp ⟨a, x, y, sp, Pf n z c, pc, mem⟩ ⟨a, x, v, sp, Pz v c, pc + 2, mem⟩ := by
  have ev : (mem.getD (Builtin.bitAnd (pc + 1) 65535).toNat 0) = v := F.r1 hv
  cases hz : ((mem.getD (Builtin.bitAnd (pc + 1) 65535).toNat 0) == 0) with
  | true =>
    refine (stp_of (m := ⟨a, x, y, sp, Pf n z c, pc, mem⟩) (m' := ⟨a, x, (mem.getD (Builtin.bitAnd (pc + 1) 65535).toNat 0), sp, (Builtin.bitOr (Builtin.bitAnd (Pf n z c) (Builtin.bitNot (Builtin.bitOr 2 128))) 2), (Builtin.bitAnd ((Builtin.bitAnd (pc + 1) 65535) + 1) 65535), mem⟩) (o := [.k 160, .b true]) (ex := 0) (ad := 0) (junk := [.meth 92 (.obj 1)]) (hg := (gc F.b0 (gc F.op (gc F.b1 (gc hz g0))))) (e := fun st => by kernel_rfl)).to ?_
    rw [ev] at hz
    refine mk_eq rfl rfl ev rfl (pz_T hz) F.p2 rfl
  | false =>
    refine (stp_of (m := ⟨a, x, y, sp, Pf n z c, pc, mem⟩) (m' := ⟨a, x, (mem.getD (Builtin.bitAnd (pc + 1) 65535).toNat 0), sp, (Builtin.bitOr (Builtin.bitAnd (Pf n z c) (Builtin.bitNot (Builtin.bitOr 2 128))) (Builtin.bitAnd (mem.getD (Builtin.bitAnd (pc + 1) 65535).toNat 0) 128)), (Builtin.bitAnd ((Builtin.bitAnd (pc + 1) 65535) + 1) 65535), mem⟩) (o := [.k 160, .b false]) (ex := 0) (ad := 0) (junk := [.meth 92 (.obj 1)]) (hg := (gc F.b0 (gc F.op (gc F.b1 (gc hz g0))))) (e := fun st => by kernel_rfl)).to ?_
    rw [ev] at hz
    refine mk_eq rfl rfl ev rfl (by rw [ev]; exact pz_F (by lia) (by lia) hz) F.p2 rfl
theorem s_lda2 {k v : Int} (F : Fetch mem pc 165) (hk : get mem (pc + 1) = k) (hk0 : 0 ≤ k) (hk1 : k < mem.length) (hv : get mem k = v) (h0 : 0 ≤ v) (h1 : v < 256) : Stp ⟨a, x, y, sp, Pf n z c, pc, mem⟩ ⟨v, x, y, sp, Pz v c, pc + 2, mem⟩ := by
  have ek : (mem.getD (Builtin.bitAnd (pc + 1) 65535).toNat 0) = k := F.r1 hk
  have ev : (mem.getD (mem.getD (Builtin.bitAnd (pc + 1) 65535).toNat 0).toNat 0) = v := by rw [ek]; exact hv
  have ib : InB mem.length (mem.getD (Builtin.bitAnd (pc + 1) 65535).toNat 0) := by rw [ek]; exact inB_of hk0 hk1 F.sz
  cases hz : ((mem.getD (mem.getD (Builtin.bitAnd (pc + 1) 65535).toNat 0).toNat 0) == 0) with
  | true =>
    refine (stp_of (m := ⟨a, x, y, sp, Pf n z c, pc, mem⟩) (m' := ⟨(mem.getD (mem.getD (Builtin.bitAnd (pc + 1) 65535).toNat 0).toNat 0), x, y, sp, (Builtin.bitOr (Builtin.bitAnd (Pf n z c) (Builtin.bitNot (Builtin.bitOr 2 128))) 2), (Builtin.bitAnd ((Builtin.bitAnd (pc + 1) 65535) + 1) 65535), mem⟩) (o := [.k 165, .b true]) (ex := 0) (ad := 0) (junk := [.meth 106 (.obj 1)]) (hg := (gc F.b0 (gc F.op (gc F.b1 (gc ib (gc hz g0)))))) (e := fun st => by kernel_rfl)).to ?_
    rw [ev] at hz
    refine mk_eq ev rfl rfl rfl (pz_T hz) F.p2 rfl
  | false =>
    refine (stp_of (m := ⟨a, x, y, sp, Pf n z c, pc, mem⟩) (m' := ⟨(mem.getD (mem.getD (Builtin.bitAnd (pc + 1) 65535).toNat 0).toNat 0), x, y, sp, (Builtin.bitOr (Builtin.bitAnd (Pf n z c) (Builtin.bitNot (Builtin.bitOr 2 128))) (Builtin.bitAnd (mem.getD (mem.getD (Builtin.bitAnd (pc + 1) 65535).toNat 0).toNat 0) 128)), (Builtin.bitAnd ((Builtin.bitAnd (pc + 1) 65535) + 1) 65535), mem⟩) (o := [.k 165, .b false]) (ex := 0) (ad := 0) (junk := [.meth 106 (.obj 1)]) (hg := (gc F.b0 (gc F.op (gc F.b1 (gc ib (gc hz g0)))))) (e := fun st => by kernel_rfl)).to ?_
    rw [ev] at hz
    refine mk_eq ev rfl rfl rfl (by rw [ev]; exact pz_F (by lia) (by lia) hz) F.p2 rfl
theorem s_ldx2 {k v : Int} (F : Fetch mem pc 166) (hk : get mem (pc + 1) = k) (hk0 : 0 ≤ k) (hk1 : k < mem.length) (hv : get mem k = v) (h0 : 0 ≤ v) (h1 : v < 256) : Stp ⟨a, x, y, sp, Pf n z c, pc, mem⟩ ⟨a, v, y, sp, Pz v c, pc + 2, mem⟩ := by
  have ek : (mem.getD (Builtin.bitAnd (pc + 1) 65535).toNat 0) = k := F.r1 hk
  have ev : (mem.getD (mem.getD (Builtin.bitAnd (pc + 1) 65535).toNat 0).toNat 0) = v := by rw [ek]; exact hv
  have ib : InB mem.length (mem.getD (Builtin.bitAnd (pc + 1) 65535).toNat 0) := by rw [ek]; exact inB_of hk0 hk1 F.sz
  cases hz : ((mem.getD (mem.getD (Builtin.bitAnd (pc + 1) 65535).toNat 0).toNat 0) == 0) with
  | true =>
    refine (stp_of (m := ⟨a, x, y, sp, Pf n z c, pc, mem⟩) (m' := ⟨a, (mem.getD (mem.getD (Builtin.bitAnd (pc + 1) 65535).toNat 0).toNat 0), y, sp, (Builtin.bitOr (Builtin.bitAnd (Pf n z c) (Builtin.bitNot (Builtin.bitOr 2 128))) 2), (Builtin.bitAnd ((Builtin.bitAnd (pc + 1) 65535) + 1) 65535), mem⟩) (o := [.k 166, .b true]) (ex := 0) (ad := 0) (junk := [.meth 106 (.obj 1)]) (hg := (gc F.b0 (gc F.op (gc F.b1 (gc ib (gc hz g0)))))) (e := fun st => by kernel_rfl)).to ?_
    rw [ev] at hz
    refine mk_eq rfl ev rfl rfl (pz_T hz) F.p2 rfl
  | false =>
    refine (stp_of (m := ⟨a, x, y, sp, Pf n z c, pc, mem⟩) (m' := ⟨a, (mem.getD (mem.getD (Builtin.bitAnd (pc + 1) 65535).toNat 0).toNat 0), y, sp, (Builtin.bitOr (Builtin.bitAnd (Pf n z c) (Builtin.bitNot (Builtin.bitOr 2 128))) (Builtin.bitAnd (mem.getD (mem.getD (Builtin.bitAnd (pc + 1) 65535).toNat 0).toNat 0) 128)), (Builtin.bitAnd ((Builtin.bitAnd (pc + 1) 65535) + 1) 65535), mem⟩) (o := [.k 166, .b false]) (ex := 0) (ad := 0) (junk := [.meth 106 (.obj 1)]) (hg := (gc F.b0 (gc F.op (gc F.b1 (gc ib (gc hz g0)))))) (e := fun st => by kernel_rfl)).to ?_
    rw [ev] at hz
    refine mk_eq rfl ev rfl rfl (by rw [ev]; exact pz_F (by lia) (by lia) hz) F.p2 rfl
theorem s_sta2 (F : Fetch mem pc 133) {k : Int} (hk : get mem (pc + 1) = k) (hk0 : 0 ≤ k) (hk1 : k < mem.length) : Stp ⟨a, x, y, sp, Pf n z c, pc, mem⟩ ⟨a, x, y, sp, Pf n z c, pc + 2, mem.set k.toNat a⟩ := by
  have ek : (mem.getD (Builtin.bitAnd (pc + 1) 65535).toNat 0) = k := F.r1 hk
  have ib : InB mem.length (mem.getD (Builtin.bitAnd (pc + 1) 65535).toNat 0) := by rw [ek]; exact inB_of hk0 hk1 F.sz
  refine (stp_of (m := ⟨a, x, y, sp, Pf n z c, pc, mem⟩) (m' := ⟨a, x, y, sp, Pf n z c, (Builtin.bitAnd ((Builtin.bitAnd (pc + 1) 65535) + 1) 65535), mem.set (mem.getD (Builtin.bitAnd (pc + 1) 65535).toNat 0).toNat a⟩) (o := [.k 133]) (ex := 0) (ad := 0) (junk := [.meth 106 (.obj 1)]) (hg := (gc F.b0 (gc F.op (gc F.b1 (gc ib g0))))) (e := fun st => by kernel_rfl)).to ?_
  exact mk_eq rfl rfl rfl rfl rfl F.p2 (by rw [ek])
theorem s_stx2 (F : Fetch mem pc 134) {k : Int} (hk : get mem (pc + 1) = k) (hk0 : 0 ≤ k) (hk1 : k < mem.length) : Stp ⟨a, x, y, sp, Pf n z c, pc, mem⟩ ⟨a, x, y, sp, Pf n z c, pc + 2, mem.set k.toNat x⟩ := by
  have ek : (mem.getD (Builtin.bitAnd (pc + 1) 65535).toNat 0) = k := F.r1 hk
  have ib : InB mem.length (mem.getD (Builtin.bitAnd (pc + 1) 65535).toNat 0) := by rw [ek]; exact inB_of hk0 hk1 F.sz
  refine (stp_of (m := ⟨a, x, y, sp, Pf n z c, pc, mem⟩) (m' := ⟨a, x, y, sp, Pf n z c, (Builtin.bitAnd ((Builtin.bitAnd (pc + 1) 65535) + 1) 65535), mem.set (mem.getD (Builtin.bitAnd (pc + 1) 65535).toNat 0).toNat x⟩) (o := [.k 134]) (ex := 0) (ad := 0) (junk := [.meth 106 (.obj 1)]) (hg := (gc F.b0 (gc F.op (gc F.b1 (gc ib g0))))) (e := fun st => by kernel_rfl)).to ?_
  exact mk_eq rfl rfl rfl rfl rfl F.p2 (by rw [ek])
theorem s_stxy (F : Fetch mem pc 150) {q k : Int} (hq : get mem (pc + 1) = q) (hk : (y + q) % 256 = k) (hk1 : k < mem.length) : Stp ⟨a, x, y, sp, Pf n z c, pc, mem⟩ ⟨a, x, y, sp, Pf n z c, pc + 2, mem.set k.toNat x⟩ := by
  have eq : (mem.getD (Builtin.bitAnd (pc + 1) 65535).toNat 0) = q := F.r1 hq
  have ek : (Builtin.bitAnd 255 (y + (mem.getD (Builtin.bitAnd (pc + 1) 65535).toNat 0))) = k := by rw [eq, and255c]; exact hk
  have ib : InB mem.length (Builtin.bitAnd 255 (y + (mem.getD (Builtin.bitAnd (pc + 1) 65535).toNat 0))) := by rw [ek]; exact inB_of (emod_nn hk) hk1 F.sz
  refine (stp_of (m := ⟨a, x, y, sp, Pf n z c, pc, mem⟩) (m' := ⟨a, x, y, sp, Pf n z c, (Builtin.bitAnd ((Builtin.bitAnd (pc + 1) 65535) + 1) 65535), mem.set (Builtin.bitAnd 255 (y + (mem.getD (Builtin.bitAnd (pc + 1) 65535).toNat 0))).toNat x⟩) (o := [.k 150]) (ex := 0) (ad := 0) (junk := [.meth 120 (.obj 1)]) (hg := (gc F.b0 (gc F.op (gc F.b1 (gc ib g0))))) (e := fun st => by kernel_rfl)).to ?_
  exact mk_eq rfl rfl rfl rfl rfl F.p2 (by rw [ek])
theorem s_ldxy {q k v : Int} (F : Fetch mem pc 182) (hq : get mem (pc + 1) = q) (hk : (y + q) % 256 = k) (hk1 : k < mem.length) (hv : get mem k = v) (h0 : 0 ≤ v) (h1 : v < 256) : Stp ⟨a, x, y, sp, Pf n z c, pc, mem⟩ ⟨a, v, y, sp, Pz v c, pc + 2, mem⟩ := by
  have eq : (mem.getD (Builtin.bitAnd (pc + 1) 65535).toNat 0) = q := F.r1 hq
  have ek : (Builtin.bitAnd 255 (y + (mem.getD (Builtin.bitAnd (pc + 1) 65535).toNat 0))) = k := by rw [eq, and255c]; exact hk
  have ev : (mem.getD (Builtin.bitAnd 255 (y + (mem.getD (Builtin.bitAnd (pc + 1) 65535).toNat 0))).toNat 0) = v := by rw [ek]; exact hv
  have ib : InB mem.length (Builtin.bitAnd 255 (y + (mem.getD (Builtin.bitAnd (pc + 1) 65535).toNat 0))) := by rw [ek]; exact inB_of (emod_nn hk) hk1 F.sz
  cases hz : ((mem.getD (Builtin.bitAnd 255 (y + (mem.getD (Builtin.bitAnd (pc + 1) 65535).toNat 0))).toNat 0) == 0) with
  | true =>
    refine (stp_of (m := ⟨a, x, y, sp, Pf n z c, pc, mem⟩) (m' := ⟨a, (mem.getD (Builtin.bitAnd 255 (y + (mem.getD (Builtin.bitAnd (pc + 1) 65535).toNat 0))).toNat 0), y, sp, (Builtin.bitOr (Builtin.bitAnd (Pf n z c) (Builtin.bitNot (Builtin.bitOr 2 128))) 2), (Builtin.bitAnd ((Builtin.bitAnd (pc + 1) 65535) + 1) 65535), mem⟩) (o := [.k 182, .b true]) (ex := 0) (ad := 0) (junk := [.meth 120 (.obj 1)]) (hg := (gc F.b0 (gc F.op (gc F.b1 (gc ib (gc hz g0)))))) (e := fun st => by kernel_rfl)).to ?_
    rw [ev] at hz
    refine mk_eq rfl ev rfl rfl (pz_T hz) F.p2 rfl
  | false =>
    refine (stp_of (m := ⟨a, x, y, sp, Pf n z c, pc, mem⟩) (m' := ⟨a, (mem.getD (Builtin.bitAnd 255 (y + (mem.getD (Builtin.bitAnd (pc + 1) 65535).toNat 0))).toNat 0), y, sp, (Builtin.bitOr (Builtin.bitAnd (Pf n z c) (Builtin.bitNot (Builtin.bitOr 2 128))) (Builtin.bitAnd (mem.getD (Builtin.bitAnd 255 (y + (mem.getD (Builtin.bitAnd (pc + 1) 65535).toNat 0))).toNat 0) 128)), (Builtin.bitAnd ((Builtin.bitAnd (pc + 1) 65535) + 1) 65535), mem⟩) (o := [.k 182, .b false]) (ex := 0) (ad := 0) (junk := [.meth 120 (.obj 1)]) (hg := (gc F.b0 (gc F.op (gc F.b1 (gc ib (gc hz g0)))))) (e := fun st => by kernel_rfl)).to ?_
    rw [ev] at hz
    refine mk_eq rfl ev rfl rfl (by rw [ev]; exact pz_F (by lia) (by lia) hz) F.p2 rfl
theorem s_inc2 {k u v : Int} (F : Fetch mem pc 230) (hk : get mem (pc + 1) = k) (hk0 : 0 ≤ k) (hk1 : k < mem.length) (hu : get mem k = u) (hv : (u + 1) % 256 = v) : Stp ⟨a, x, y, sp, Pf n z c, pc, mem⟩ ⟨a, x, y, sp, Pz v c, pc + 2, mem.set k.toNat v⟩ := by
  have ek : (mem.getD (Builtin.bitAnd (pc + 1) 65535).toNat 0) = k := F.r1 hk
  have ib : InB mem.length (mem.getD (Builtin.bitAnd (pc + 1) 65535).toNat 0) := by rw [ek]; exact inB_of hk0 hk1 F.sz
  have ev : (Builtin.bitAnd (mem.getD (mem.getD (Builtin.bitAnd (pc + 1) 65535).toNat 0).toNat 0 + 1) 255) = v := by rw [ek, show mem.getD k.toNat 0 = u from hu, and255]; exact hv
  cases hz : ((Builtin.bitAnd (mem.getD (mem.getD (Builtin.bitAnd (pc + 1) 65535).toNat 0).toNat 0 + 1) 255) != 0) with
  | true =>
    refine (stp_of (m := ⟨a, x, y, sp, Pf n z c, pc, mem⟩) (m' := ⟨a, x, y, sp, (Builtin.bitOr (Builtin.bitAnd (Pf n z c) (Builtin.bitNot (Builtin.bitOr 2 128))) (Builtin.bitAnd (Builtin.bitAnd (mem.getD (mem.getD (Builtin.bitAnd (pc + 1) 65535).toNat 0).toNat 0 + 1) 255) 128)), (Builtin.bitAnd ((Builtin.bitAnd (pc + 1) 65535) + 1) 65535), mem.set (mem.getD (Builtin.bitAnd (pc + 1) 65535).toNat 0).toNat (Builtin.bitAnd (mem.getD (mem.getD (Builtin.bitAnd (pc + 1) 65535).toNat 0).toNat 0 + 1) 255)⟩) (o := [.k 230, .b true]) (ex := 0) (ad := 0) (junk := [.meth 106 (.obj 1)]) (hg := (gc F.b0 (gc F.op (gc F.b1 (gc ib (gc hz (gc ib g0))))))) (e := fun st => by kernel_rfl)).to ?_
    rw [ev] at hz
    refine mk_eq rfl rfl rfl rfl (by rw [ev]; exact pz_F (emod_nn hv) (emod_lt hv) (bne_T hz)) F.p2 (by rw [ev, ek])
  | false =>
    refine (stp_of (m := ⟨a, x, y, sp, Pf n z c, pc, mem⟩) (m' := ⟨a, x, y, sp, (Builtin.bitOr (Builtin.bitAnd (Pf n z c) (Builtin.bitNot (Builtin.bitOr 2 128))) 2), (Builtin.bitAnd ((Builtin.bitAnd (pc + 1) 65535) + 1) 65535), mem.set (mem.getD (Builtin.bitAnd (pc + 1) 65535).toNat 0).toNat (Builtin.bitAnd (mem.getD (mem.getD (Builtin.bitAnd (pc + 1) 65535).toNat 0).toNat 0 + 1) 255)⟩) (o := [.k 230, .b false]) (ex := 0) (ad := 0) (junk := [.meth 106 (.obj 1)]) (hg := (gc F.b0 (gc F.op (gc F.b1 (gc ib (gc hz (gc ib g0))))))) (e := fun st => by kernel_rfl)).to ?_
    rw [ev] at hz
    refine mk_eq rfl rfl rfl rfl (pz_T (bne_F hz)) F.p2 (by rw [ev, ek])
theorem s_cmp {v : Int} (F : Fetch mem pc 201) (hv : get mem (pc + 1) = v) (hr : 0 ≤ a ∧ a < 256) (hv0 : 0 ≤ v ∧ v < 256) : Stp ⟨a, x, y, sp, Pf n z c, pc, mem⟩ ⟨a, x, y, sp, Pc a v, pc + 2, mem⟩ := by
  have ev : (mem.getD (Builtin.bitAnd (pc + 1) 65535).toNat 0) = v := F.r1 hv
  cases h1 : (a == (mem.getD (Builtin.bitAnd (pc + 1) 65535).toNat 0)) with
  | true =>
    refine (stp_of (m := ⟨a, x, y, sp, Pf n z c, pc, mem⟩) (m' := ⟨a, x, y, sp, (Builtin.bitOr (Builtin.bitOr (Builtin.bitAnd (Pf n z c) (Builtin.bitNot (Builtin.bitOr (Builtin.bitOr 1 2) 128))) (Builtin.bitOr 1 2)) (Builtin.bitAnd (a - (mem.getD (Builtin.bitAnd (pc + 1) 65535).toNat 0)) 128)), (Builtin.bitAnd ((Builtin.bitAnd (pc + 1) 65535) + 1) 65535), mem⟩) (o := [.k 201, .b true]) (ex := 0) (ad := 0) (junk := [.meth 92 (.obj 1)]) (hg := (gc F.b0 (gc F.op (gc F.b1 (gc h1 g0))))) (e := fun st => by kernel_rfl)).to ?_
    refine mk_eq rfl rfl rfl rfl (by rw [ev]; exact p_cE hr hv0 (by rw [ev] at h1; exact h1)) F.p2 rfl
  | false =>
    cases h2 : decide ((mem.getD (Builtin.bitAnd (pc + 1) 65535).toNat 0) < a) with
    | true =>
      refine (stp_of (m := ⟨a, x, y, sp, Pf n z c, pc, mem⟩) (m' := ⟨a, x, y, sp, (Builtin.bitOr (Builtin.bitOr (Builtin.bitAnd (Pf n z c) (Builtin.bitNot (Builtin.bitOr (Builtin.bitOr 1 2) 128))) 1) (Builtin.bitAnd (a - (mem.getD (Builtin.bitAnd (pc + 1) 65535).toNat 0)) 128)), (Builtin.bitAnd ((Builtin.bitAnd (pc + 1) 65535) + 1) 65535), mem⟩) (o := [.k 201, .b false, .b true]) (ex := 0) (ad := 0) (junk := [.meth 92 (.obj 1)]) (hg := (gc F.b0 (gc F.op (gc F.b1 (gc h1 (gc h2 g0)))))) (e := fun st => by kernel_rfl)).to ?_
      refine mk_eq rfl rfl rfl rfl (by rw [ev]; exact p_cG hr hv0 (by rw [ev] at h1; exact h1) (by rw [ev] at h2; exact h2)) F.p2 rfl
    | false =>
      refine (stp_of (m := ⟨a, x, y, sp, Pf n z c, pc, mem⟩) (m' := ⟨a, x, y, sp, (Builtin.bitOr (Builtin.bitAnd (Pf n z c) (Builtin.bitNot (Builtin.bitOr (Builtin.bitOr 1 2) 128))) (Builtin.bitAnd (a - (mem.getD (Builtin.bitAnd (pc + 1) 65535).toNat 0)) 128)), (Builtin.bitAnd ((Builtin.bitAnd (pc + 1) 65535) + 1) 65535), mem⟩) (o := [.k 201, .b false, .b false]) (ex := 0) (ad := 0) (junk := [.meth 92 (.obj 1)]) (hg := (gc F.b0 (gc F.op (gc F.b1 (gc h1 (gc h2 g0)))))) (e := fun st => by kernel_rfl)).to ?_
      refine mk_eq rfl rfl rfl rfl (by rw [ev]; exact p_cL hr hv0 (by rw [ev] at h1; exact h1) (by rw [ev] at h2; exact h2)) F.p2 rfl
theorem s_cmp2 {k v : Int} (F : Fetch mem pc 197) (hk : get mem (pc + 1) = k) (hk0 : 0 ≤ k) (hk1 : k < mem.length) (hv : get mem k = v) (hr : 0 ≤ a ∧ a < 256) (hv0 : 0 ≤ v ∧ v < 256) : Stp ⟨a, x, y, sp, Pf n z c, pc, mem⟩ ⟨a, x, y, sp, Pc a v, pc + 2, mem⟩ := by
  have ek : (mem.getD (Builtin.bitAnd (pc + 1) 65535).toNat 0) = k := F.r1 hk
  have ev : mem.getD (mem.getD (Builtin.bitAnd (pc + 1) 65535).toNat 0).toNat 0 = v := by rw [ek]; exact hv
  have ib : InB mem.length (mem.getD (Builtin.bitAnd (pc + 1) 65535).toNat 0) := by rw [ek]; exact inB_of hk0 hk1 F.sz
  cases h1 : (a == (mem.getD (mem.getD (Builtin.bitAnd (pc + 1) 65535).toNat 0).toNat 0)) with
  | true =>
    refine (stp_of (m := ⟨a, x, y, sp, Pf n z c, pc, mem⟩) (m' := ⟨a, x, y, sp, (Builtin.bitOr (Builtin.bitOr (Builtin.bitAnd (Pf n z c) (Builtin.bitNot (Builtin.bitOr (Builtin.bitOr 1 2) 128))) (Builtin.bitOr 1 2)) (Builtin.bitAnd (a - (mem.getD (mem.getD (Builtin.bitAnd (pc + 1) 65535).toNat 0).toNat 0)) 128)), (Builtin.bitAnd ((Builtin.bitAnd (pc + 1) 65535) + 1) 65535), mem⟩) (o := [.k 197, .b true]) (ex := 0) (ad := 0) (junk := [.meth 106 (.obj 1)]) (hg := (gc F.b0 (gc F.op (gc F.b1 (gc ib (gc h1 g0)))))) (e := fun st => by kernel_rfl)).to ?_
    refine mk_eq rfl rfl rfl rfl (by rw [ev]; exact p_cE hr hv0 (by rw [ev] at h1; exact h1)) F.p2 rfl
  | false =>
    cases h2 : decide ((mem.getD (mem.getD (Builtin.bitAnd (pc + 1) 65535).toNat 0).toNat 0) < a) with
    | true =>
      refine (stp_of (m := ⟨a, x, y, sp, Pf n z c, pc, mem⟩) (m' := ⟨a, x, y, sp, (Builtin.bitOr (Builtin.bitOr (Builtin.bitAnd (Pf n z c) (Builtin.bitNot (Builtin.bitOr (Builtin.bitOr 1 2) 128))) 1) (Builtin.bitAnd (a - (mem.getD (mem.getD (Builtin.bitAnd (pc + 1) 65535).toNat 0).toNat 0)) 128)), (Builtin.bitAnd ((Builtin.bitAnd (pc + 1) 65535) + 1) 65535), mem⟩) (o := [.k 197, .b false, .b true]) (ex := 0) (ad := 0) (junk := [.meth 106 (.obj 1)]) (hg := (gc F.b0 (gc F.op (gc F.b1 (gc ib (gc h1 (gc h2 g0))))))) (e := fun st => by kernel_rfl)).to ?_
      refine mk_eq rfl rfl rfl rfl (by rw [ev]; exact p_cG hr hv0 (by rw [ev] at h1; exact h1) (by rw [ev] at h2; exact h2)) F.p2 rfl
    | false =>
      refine (stp_of (m := ⟨a, x, y, sp, Pf n z c, pc, mem⟩) (m' := ⟨a, x, y, sp, (Builtin.bitOr (Builtin.bitAnd (Pf n z c) (Builtin.bitNot (Builtin.bitOr (Builtin.bitOr 1 2) 128))) (Builtin.bitAnd (a - (mem.getD (mem.getD (Builtin.bitAnd (pc + 1) 65535).toNat 0).toNat 0)) 128)), (Builtin.bitAnd ((Builtin.bitAnd (pc + 1) 65535) + 1) 65535), mem⟩) (o := [.k 197, .b false, .b false]) (ex := 0) (ad := 0) (junk := [.meth 106 (.obj 1)]) (hg := (gc F.b0 (gc F.op (gc F.b1 (gc ib (gc h1 (gc h2 g0))))))) (e := fun st => by kernel_rfl)).to ?_
      refine mk_eq rfl rfl rfl rfl (by rw [ev]; exact p_cL hr hv0 (by rw [ev] at h1; exact h1) (by rw [ev] at h2; exact h2)) F.p2 rfl
theorem s_ldax {lo hi k v : Int} (F : Fetch mem pc 189) (hlo : get mem (pc + 1) = lo) (hhi : get mem (pc + 2) = hi) (hl0 : 0 ≤ lo ∧ lo < 256) (hh0 : 0 ≤ hi ∧ hi < 256) (hk : lo + hi * 256 + x = k) (hk0 : 0 ≤ k) (hk1 : k < mem.length) (hv : get mem k = v) (h0 : 0 ≤ v) (h1 : v < 256) : Stp ⟨a, x, y, sp, Pf n z c, pc, mem⟩ ⟨v, x, y, sp, Pz v c, pc + 3, mem⟩ := by
  have e1 : (mem.getD (Builtin.bitAnd (pc + 1) 65535).toNat 0) = lo := F.r1 hlo
  have e2 : (mem.getD ((Builtin.bitAnd (pc + 1) 65535) + 1).toNat 0) = hi := F.r2 hhi
  have ek : (Builtin.bitAnd ((mem.getD (Builtin.bitAnd (pc + 1) 65535).toNat 0) + (mem.getD ((Builtin.bitAnd (pc + 1) 65535) + 1).toNat 0) * 2 ^ Int.toNat 8 + x) 65535) = k := by rw [e1, e2, and65535, show (2 : Int) ^ Int.toNat 8 = 256 from rfl]; have := F.sz; lia
  have ib : InB mem.length (Builtin.bitAnd ((mem.getD (Builtin.bitAnd (pc + 1) 65535).toNat 0) + (mem.getD ((Builtin.bitAnd (pc + 1) 65535) + 1).toNat 0) * 2 ^ Int.toNat 8 + x) 65535) := by rw [ek]; exact inB_of hk0 hk1 F.sz
  have iz : ((mem.getD ((Builtin.bitAnd (pc + 1) 65535) + 1).toNat 0)).natAbs < 2 ^ 64 := by rw [e2]; lia
  have ev : (mem.getD (Builtin.bitAnd ((mem.getD (Builtin.bitAnd (pc + 1) 65535).toNat 0) + (mem.getD ((Builtin.bitAnd (pc + 1) 65535) + 1).toNat 0) * 2 ^ Int.toNat 8 + x) 65535).toNat 0) = v := by rw [ek]; exact hv
  cases hq : (Builtin.bitAnd ((mem.getD (Builtin.bitAnd (pc + 1) 65535).toNat 0) + (mem.getD ((Builtin.bitAnd (pc + 1) 65535) + 1).toNat 0) * 2 ^ Int.toNat 8) 65280 != Builtin.bitAnd (Builtin.bitAnd ((mem.getD (Builtin.bitAnd (pc + 1) 65535).toNat 0) + (mem.getD ((Builtin.bitAnd (pc + 1) 65535) + 1).toNat 0) * 2 ^ Int.toNat 8 + x) 65535) 65280) with
  | true =>
    cases hz : ((mem.getD (Builtin.bitAnd ((mem.getD (Builtin.bitAnd (pc + 1) 65535).toNat 0) + (mem.getD ((Builtin.bitAnd (pc + 1) 65535) + 1).toNat 0) * 2 ^ Int.toNat 8 + x) 65535).toNat 0) == 0) with
    | true =>
      refine (stp_of (m := ⟨a, x, y, sp, Pf n z c, pc, mem⟩) (m' := ⟨(mem.getD (Builtin.bitAnd ((mem.getD (Builtin.bitAnd (pc + 1) 65535).toNat 0) + (mem.getD ((Builtin.bitAnd (pc + 1) 65535) + 1).toNat 0) * 2 ^ Int.toNat 8 + x) 65535).toNat 0), x, y, sp, (Builtin.bitOr (Builtin.bitAnd (Pf n z c) (Builtin.bitNot (Builtin.bitOr 2 128))) 2), (Builtin.bitAnd ((Builtin.bitAnd (pc + 1) 65535) + 2) 65535), mem⟩) (o := [.k 189, .b true, .b true]) (ex := 0 + 1) (ad := 1) (junk := [.meth 148 (.obj 1)]) (hg := (gc F.b0 (gc F.op (gc F.b1 (gc F.b2 (gc (show (0 : Int) ≤ 8 by decide) (gc (show (8 : Int) ≤ 1000000 by decide) (gc iz (gc hq (gc ib (gc hz g0))))))))))) (e := fun st => by kernel_rfl)).to ?_
      rw [ev] at hz
      refine mk_eq ev rfl rfl rfl (pz_T hz) F.p3 rfl
    | false =>
      refine (stp_of (m := ⟨a, x, y, sp, Pf n z c, pc, mem⟩) (m' := ⟨(mem.getD (Builtin.bitAnd ((mem.getD (Builtin.bitAnd (pc + 1) 65535).toNat 0) + (mem.getD ((Builtin.bitAnd (pc + 1) 65535) + 1).toNat 0) * 2 ^ Int.toNat 8 + x) 65535).toNat 0), x, y, sp, (Builtin.bitOr (Builtin.bitAnd (Pf n z c) (Builtin.bitNot (Builtin.bitOr 2 128))) (Builtin.bitAnd (mem.getD (Builtin.bitAnd ((mem.getD (Builtin.bitAnd (pc + 1) 65535).toNat 0) + (mem.getD ((Builtin.bitAnd (pc + 1) 65535) + 1).toNat 0) * 2 ^ Int.toNat 8 + x) 65535).toNat 0) 128)), (Builtin.bitAnd ((Builtin.bitAnd (pc + 1) 65535) + 2) 65535), mem⟩) (o := [.k 189, .b true, .b false]) (ex := 0 + 1) (ad := 1) (junk := [.meth 148 (.obj 1)]) (hg := (gc F.b0 (gc F.op (gc F.b1 (gc F.b2 (gc (show (0 : Int) ≤ 8 by decide) (gc (show (8 : Int) ≤ 1000000 by decide) (gc iz (gc hq (gc ib (gc hz g0))))))))))) (e := fun st => by kernel_rfl)).to ?_
      rw [ev] at hz
      refine mk_eq ev rfl rfl rfl (by rw [ev]; exact pz_F (by lia) (by lia) hz) F.p3 rfl
  | false =>
    cases hz : ((mem.getD (Builtin.bitAnd ((mem.getD (Builtin.bitAnd (pc + 1) 65535).toNat 0) + (mem.getD ((Builtin.bitAnd (pc + 1) 65535) + 1).toNat 0) * 2 ^ Int.toNat 8 + x) 65535).toNat 0) == 0) with
    | true =>
      refine (stp_of (m := ⟨a, x, y, sp, Pf n z c, pc, mem⟩) (m' := ⟨(mem.getD (Builtin.bitAnd ((mem.getD (Builtin.bitAnd (pc + 1) 65535).toNat 0) + (mem.getD ((Builtin.bitAnd (pc + 1) 65535) + 1).toNat 0) * 2 ^ Int.toNat 8 + x) 65535).toNat 0), x, y, sp, (Builtin.bitOr (Builtin.bitAnd (Pf n z c) (Builtin.bitNot (Builtin.bitOr 2 128))) 2), (Builtin.bitAnd ((Builtin.bitAnd (pc + 1) 65535) + 2) 65535), mem⟩) (o := [.k 189, .b false, .b true]) (ex := 0) (ad := 1) (junk := [.meth 148 (.obj 1)]) (hg := (gc F.b0 (gc F.op (gc F.b1 (gc F.b2 (gc (show (0 : Int) ≤ 8 by decide) (gc (show (8 : Int) ≤ 1000000 by decide) (gc iz (gc hq (gc ib (gc hz g0))))))))))) (e := fun st => by kernel_rfl)).to ?_
      rw [ev] at hz
      refine mk_eq ev rfl rfl rfl (pz_T hz) F.p3 rfl
    | false =>
      refine (stp_of (m := ⟨a, x, y, sp, Pf n z c, pc, mem⟩) (m' := ⟨(mem.getD (Builtin.bitAnd ((mem.getD (Builtin.bitAnd (pc + 1) 65535).toNat 0) + (mem.getD ((Builtin.bitAnd (pc + 1) 65535) + 1).toNat 0) * 2 ^ Int.toNat 8 + x) 65535).toNat 0), x, y, sp, (Builtin.bitOr (Builtin.bitAnd (Pf n z c) (Builtin.bitNot (Builtin.bitOr 2 128))) (Builtin.bitAnd (mem.getD (Builtin.bitAnd ((mem.getD (Builtin.bitAnd (pc + 1) 65535).toNat 0) + (mem.getD ((Builtin.bitAnd (pc + 1) 65535) + 1).toNat 0) * 2 ^ Int.toNat 8 + x) 65535).toNat 0) 128)), (Builtin.bitAnd ((Builtin.bitAnd (pc + 1) 65535) + 2) 65535), mem⟩) (o := [.k 189, .b false, .b false]) (ex := 0) (ad := 1) (junk := [.meth 148 (.obj 1)]) (hg := (gc F.b0 (gc F.op (gc F.b1 (gc F.b2 (gc (show (0 : Int) ≤ 8 by decide) (gc (show (8 : Int) ≤ 1000000 by decide) (gc iz (gc hq (gc ib (gc hz g0))))))))))) (e := fun st => by kernel_rfl)).to ?_
      rw [ev] at hz
      refine mk_eq ev rfl rfl rfl (by rw [ev]; exact pz_F (by lia) (by lia) hz) F.p3 rfl
theorem s_jmp (F : Fetch mem pc 76) {lo hi k : Int} (hlo : get mem (pc + 1) = lo) (hhi : get mem (pc + 2) = hi) (hh0 : 0 ≤ hi ∧ hi < 256) (hk : lo + hi * 256 = k) (hk0 : 0 ≤ k) (hk1 : k < 65536) : Stp ⟨a, x, y, sp, Pf n z c, pc, mem⟩ ⟨a, x, y, sp, Pf n z c, k, mem⟩ := by
  have e1 : (mem.getD (Builtin.bitAnd (pc + 1) 65535).toNat 0) = lo := F.r1 hlo
  have e2 : (mem.getD ((Builtin.bitAnd (pc + 1) 65535) + 1).toNat 0) = hi := F.r2 hhi
  have iz : ((mem.getD ((Builtin.bitAnd (pc + 1) 65535) + 1).toNat 0)).natAbs < 2 ^ 64 := by rw [e2]; lia
  have ek : Builtin.bitAnd ((mem.getD (Builtin.bitAnd (pc + 1) 65535).toNat 0) + (mem.getD ((Builtin.bitAnd (pc + 1) 65535) + 1).toNat 0) * 2 ^ Int.toNat 8) 65535 = k := by rw [e1, e2, and65535, show (2 : Int) ^ Int.toNat 8 = 256 from rfl]; lia
  refine (stp_of (m := ⟨a, x, y, sp, Pf n z c, pc, mem⟩) (m' := ⟨a, x, y, sp, Pf n z c, Builtin.bitAnd ((mem.getD (Builtin.bitAnd (pc + 1) 65535).toNat 0) + (mem.getD ((Builtin.bitAnd (pc + 1) 65535) + 1).toNat 0) * 2 ^ Int.toNat 8) 65535, mem⟩) (o := [.k 76]) (ex := 0) (ad := 0) (junk := []) (hg := (gc F.b0 (gc F.op (gc F.b1 (gc F.b2 (gc (show (0 : Int) ≤ 8 by decide) (gc (show (8 : Int) ≤ 1000000 by decide) (gc iz g0)))))))) (e := fun st => by kernel_rfl)).to ?_
  exact mk_eq rfl rfl rfl rfl rfl ek rfl
theorem s_rts (F : Fetch mem pc 96) {s1 s2 lo hi k : Int} (hs1 : (sp + 1) % 256 = s1) (hs2 : (s1 + 1) % 256 = s2) (hlo : get mem (s1 + 256) = lo) (hhi : get mem (s2 + 256) = hi) (hh0 : 0 ≤ hi ∧ hi < 256) (hk : lo + hi * 256 + 1 = k) (hk0 : 0 ≤ k) (hk1 : k < 65536) (hm : 512 ≤ mem.length) : Stp ⟨a, x, y, sp, Pf n z c, pc, mem⟩ ⟨a, x, y, s2, Pf n z c, k, mem⟩ := by
  have es1 : (Builtin.bitAnd (sp + 1) 255) = s1 := by rw [and255]; exact hs1
  have es2 : (Builtin.bitAnd ((Builtin.bitAnd (sp + 1) 255) + 1) 255) = s2 := by rw [es1, and255]; exact hs2
  have e1 : (mem.getD ((Builtin.bitAnd (sp + 1) 255) + 256).toNat 0) = lo := by rw [es1]; exact hlo
  have e2 : (mem.getD ((Builtin.bitAnd ((Builtin.bitAnd (sp + 1) 255) + 1) 255) + 256).toNat 0) = hi := by rw [es2]; exact hhi
  have ib1 : InB mem.length ((Builtin.bitAnd (sp + 1) 255) + 256) := by rw [es1]; exact inB_of (by lia) (by lia) F.sz
  have ib2 : InB mem.length ((Builtin.bitAnd ((Builtin.bitAnd (sp + 1) 255) + 1) 255) + 256) := by rw [es2]; exact inB_of (by lia) (by lia) F.sz
  have iz : ((mem.getD ((Builtin.bitAnd ((Builtin.bitAnd (sp + 1) 255) + 1) 255) + 256).toNat 0)).natAbs < 2 ^ 64 := by rw [e2]; lia
  have ek : Builtin.bitAnd ((mem.getD ((Builtin.bitAnd (sp + 1) 255) + 256).toNat 0) + (mem.getD ((Builtin.bitAnd ((Builtin.bitAnd (sp + 1) 255) + 1) 255) + 256).toNat 0) * 2 ^ Int.toNat 8 + 1) 65535 = k := by rw [e1, e2, and65535, show (2 : Int) ^ Int.toNat 8 = 256 from rfl]; lia
  refine (stp_of (m := ⟨a, x, y, sp, Pf n z c, pc, mem⟩) (m' := ⟨a, x, y, (Builtin.bitAnd ((Builtin.bitAnd (sp + 1) 255) + 1) 255), Pf n z c, Builtin.bitAnd ((mem.getD ((Builtin.bitAnd (sp + 1) 255) + 256).toNat 0) + (mem.getD ((Builtin.bitAnd ((Builtin.bitAnd (sp + 1) 255) + 1) 255) + 256).toNat 0) * 2 ^ Int.toNat 8 + 1) 65535, mem⟩) (o := [.k 96]) (ex := 0) (ad := 0) (junk := []) (hg := (gc F.b0 (gc F.op (gc ib1 (gc ib2 (gc (show (0 : Int) ≤ 8 by decide) (gc (show (8 : Int) ≤ 1000000 by decide) (gc iz g0)))))))) (e := fun st => by kernel_rfl)).to ?_
  exact mk_eq rfl rfl rfl es2 rfl ek rfl
theorem s_jsr (F : Fetch mem pc 32) {s1 s2 lo hi k rh rl : Int} (hs1 : (sp - 1) % 256 = s1) (hs2 : (s1 - 1) % 256 = s2) (hlo : get mem (pc + 1) = lo) (hhi : get mem (pc + 2) = hi) (hh0 : 0 ≤ hi ∧ hi < 256) (hk : lo + hi * 256 = k) (hk0 : 0 ≤ k) (hk1 : k < 65536) (hp0 : 0 ≤ sp) (hp1 : sp < 256) (hc : 512 ≤ pc) (hrl : (pc + 2) % 256 = rl) (hrh : (pc + 2) / 256 = rh) : Stp ⟨a, x, y, sp, Pf n z c, pc, mem⟩ ⟨a, x, y, s2, Pf n z c, k, (mem.set (sp + 256).toNat rh).set (s1 + 256).toNat rl⟩ := by
  have es1 : (Builtin.bitAnd (sp - 1) 255) = s1 := by rw [and255]; exact hs1
  have es2 : (Builtin.bitAnd ((Builtin.bitAnd (sp - 1) 255) - 1) 255) = s2 := by rw [es1, and255]; exact hs2
  have sz := F.sz
  have hi2 := F.hi
  have eh : (Builtin.bitAnd (Builtin.bitAnd ((Builtin.bitAnd ((Builtin.bitAnd (pc + 1) 65535) + 1) 65535).fdiv (2 ^ Int.toNat 8)) 255) 255) = rh := by rw [F.p2, and255, and255, show (2 : Int) ^ Int.toNat 8 = 256 from rfl, Int.fdiv_eq_ediv_of_nonneg _ (by decide)]; lia
  have el : (Builtin.bitAnd (Builtin.bitAnd (Builtin.bitAnd ((Builtin.bitAnd (pc + 1) 65535) + 1) 65535) 255) 255) = rl := by rw [F.p2, and255, and255]; lia
  have em : ((mem.set (sp + 256).toNat (Builtin.bitAnd (Builtin.bitAnd ((Builtin.bitAnd ((Builtin.bitAnd (pc + 1) 65535) + 1) 65535).fdiv (2 ^ Int.toNat 8)) 255) 255)).set ((Builtin.bitAnd (sp - 1) 255) + 256).toNat (Builtin.bitAnd (Builtin.bitAnd (Builtin.bitAnd ((Builtin.bitAnd (pc + 1) 65535) + 1) 65535) 255) 255)) = (mem.set (sp + 256).toNat rh).set (s1 + 256).toNat rl := by rw [eh, el, es1]
  have ib1 : InB mem.length (sp + 256) := inB_of (by lia) (by lia) F.sz
  have ib2 : InB (mem.set (sp + 256).toNat (Builtin.bitAnd (Builtin.bitAnd ((Builtin.bitAnd ((Builtin.bitAnd (pc + 1) 65535) + 1) 65535).fdiv (2 ^ Int.toNat 8)) 255) 255)).length ((Builtin.bitAnd (sp - 1) 255) + 256) := by rw [List.length_set, es1]; exact inB_of (by lia) (by lia) F.sz
  have ib3 : InB ((mem.set (sp + 256).toNat (Builtin.bitAnd (Builtin.bitAnd ((Builtin.bitAnd ((Builtin.bitAnd (pc + 1) 65535) + 1) 65535).fdiv (2 ^ Int.toNat 8)) 255) 255)).set ((Builtin.bitAnd (sp - 1) 255) + 256).toNat (Builtin.bitAnd (Builtin.bitAnd (Builtin.bitAnd ((Builtin.bitAnd (pc + 1) 65535) + 1) 65535) 255) 255)).length (Builtin.bitAnd (pc + 1) 65535) := by rw [List.length_set, List.length_set]; exact F.b1
  have ib4 : InB ((mem.set (sp + 256).toNat (Builtin.bitAnd (Builtin.bitAnd ((Builtin.bitAnd ((Builtin.bitAnd (pc + 1) 65535) + 1) 65535).fdiv (2 ^ Int.toNat 8)) 255) 255)).set ((Builtin.bitAnd (sp - 1) 255) + 256).toNat (Builtin.bitAnd (Builtin.bitAnd (Builtin.bitAnd ((Builtin.bitAnd (pc + 1) 65535) + 1) 65535) 255) 255)).length ((Builtin.bitAnd (pc + 1) 65535) + 1) := by rw [List.length_set, List.length_set]; exact F.b2
  have e1 : (((mem.set (sp + 256).toNat (Builtin.bitAnd (Builtin.bitAnd ((Builtin.bitAnd ((Builtin.bitAnd (pc + 1) 65535) + 1) 65535).fdiv (2 ^ Int.toNat 8)) 255) 255)).set ((Builtin.bitAnd (sp - 1) 255) + 256).toNat (Builtin.bitAnd (Builtin.bitAnd (Builtin.bitAnd ((Builtin.bitAnd (pc + 1) 65535) + 1) 65535) 255) 255)).getD (Builtin.bitAnd (pc + 1) 65535).toNat 0) = lo := by rw [em, F.i]; rw [← hlo]; exact get_set2 (by lia) (by lia) (by lia) (by lia) (by lia)
  have e2 : (((mem.set (sp + 256).toNat (Builtin.bitAnd (Builtin.bitAnd ((Builtin.bitAnd ((Builtin.bitAnd (pc + 1) 65535) + 1) 65535).fdiv (2 ^ Int.toNat 8)) 255) 255)).set ((Builtin.bitAnd (sp - 1) 255) + 256).toNat (Builtin.bitAnd (Builtin.bitAnd (Builtin.bitAnd ((Builtin.bitAnd (pc + 1) 65535) + 1) 65535) 255) 255)).getD ((Builtin.bitAnd (pc + 1) 65535) + 1).toNat 0) = hi := by rw [em, F.i, show pc + 1 + 1 = pc + 2 by lia]; rw [← hhi]; exact get_set2 (by lia) (by lia) (by lia) (by lia) (by lia)
  have iz : ((((mem.set (sp + 256).toNat (Builtin.bitAnd (Builtin.bitAnd ((Builtin.bitAnd ((Builtin.bitAnd (pc + 1) 65535) + 1) 65535).fdiv (2 ^ Int.toNat 8)) 255) 255)).set ((Builtin.bitAnd (sp - 1) 255) + 256).toNat (Builtin.bitAnd (Builtin.bitAnd (Builtin.bitAnd ((Builtin.bitAnd (pc + 1) 65535) + 1) 65535) 255) 255)).getD ((Builtin.bitAnd (pc + 1) 65535) + 1).toNat 0)).natAbs < 2 ^ 64 := by rw [e2]; lia
  have ek : Builtin.bitAnd ((((mem.set (sp + 256).toNat (Builtin.bitAnd (Builtin.bitAnd ((Builtin.bitAnd ((Builtin.bitAnd (pc + 1) 65535) + 1) 65535).fdiv (2 ^ Int.toNat 8)) 255) 255)).set ((Builtin.bitAnd (sp - 1) 255) + 256).toNat (Builtin.bitAnd (Builtin.bitAnd (Builtin.bitAnd ((Builtin.bitAnd (pc + 1) 65535) + 1) 65535) 255) 255)).getD (Builtin.bitAnd (pc + 1) 65535).toNat 0) + (((mem.set (sp + 256).toNat (Builtin.bitAnd (Builtin.bitAnd ((Builtin.bitAnd ((Builtin.bitAnd (pc + 1) 65535) + 1) 65535).fdiv (2 ^ Int.toNat 8)) 255) 255)).set ((Builtin.bitAnd (sp - 1) 255) + 256).toNat (Builtin.bitAnd (Builtin.bitAnd (Builtin.bitAnd ((Builtin.bitAnd (pc + 1) 65535) + 1) 65535) 255) 255)).getD ((Builtin.bitAnd (pc + 1) 65535) + 1).toNat 0) * 2 ^ Int.toNat 8) 65535 = k := by rw [e1, e2, and65535, show (2 : Int) ^ Int.toNat 8 = 256 from rfl]; lia
  refine (stp_of (m := ⟨a, x, y, sp, Pf n z c, pc, mem⟩) (m' := ⟨a, x, y, (Builtin.bitAnd ((Builtin.bitAnd (sp - 1) 255) - 1) 255), Pf n z c, Builtin.bitAnd ((((mem.set (sp + 256).toNat (Builtin.bitAnd (Builtin.bitAnd ((Builtin.bitAnd ((Builtin.bitAnd (pc + 1) 65535) + 1) 65535).fdiv (2 ^ Int.toNat 8)) 255) 255)).set ((Builtin.bitAnd (sp - 1) 255) + 256).toNat (Builtin.bitAnd (Builtin.bitAnd (Builtin.bitAnd ((Builtin.bitAnd (pc + 1) 65535) + 1) 65535) 255) 255)).getD (Builtin.bitAnd (pc + 1) 65535).toNat 0) + (((mem.set (sp + 256).toNat (Builtin.bitAnd (Builtin.bitAnd ((Builtin.bitAnd ((Builtin.bitAnd (pc + 1) 65535) + 1) 65535).fdiv (2 ^ Int.toNat 8)) 255) 255)).set ((Builtin.bitAnd (sp - 1) 255) + 256).toNat (Builtin.bitAnd (Builtin.bitAnd (Builtin.bitAnd ((Builtin.bitAnd (pc + 1) 65535) + 1) 65535) 255) 255)).getD ((Builtin.bitAnd (pc + 1) 65535) + 1).toNat 0) * 2 ^ Int.toNat 8) 65535, ((mem.set (sp + 256).toNat (Builtin.bitAnd (Builtin.bitAnd ((Builtin.bitAnd ((Builtin.bitAnd (pc + 1) 65535) + 1) 65535).fdiv (2 ^ Int.toNat 8)) 255) 255)).set ((Builtin.bitAnd (sp - 1) 255) + 256).toNat (Builtin.bitAnd (Builtin.bitAnd (Builtin.bitAnd ((Builtin.bitAnd (pc + 1) 65535) + 1) 65535) 255) 255))⟩) (o := [.k 32]) (ex := 0) (ad := 0) (junk := []) (hg := (gc F.b0 (gc F.op (gc (show (0 : Int) ≤ 8 by decide) (gc ib1 (gc ib2 (gc ib3 (gc ib4 (gc (show (0 : Int) ≤ 8 by decide) (gc (show (8 : Int) ≤ 1000000 by decide) (gc iz g0))))))))))) (e := fun st => by kernel_rfl)).to ?_
  exact mk_eq rfl rfl rfl es2 rfl ek em
theorem s_beq_n (F : Fetch mem pc 240) (hf : z = false) : Stp ⟨a, x, y, sp, Pf n z c, pc, mem⟩ ⟨a, x, y, sp, Pf n z c, pc + 2, mem⟩ := by
  have hz : (Builtin.bitAnd (Pf n z c) 2 != 0) = false := (p_z n z c).trans hf
  refine (stp_of (m := ⟨a, x, y, sp, Pf n z c, pc, mem⟩) (m' := ⟨a, x, y, sp, Pf n z c, (Builtin.bitAnd ((Builtin.bitAnd (pc + 1) 65535) + 1) 65535), mem⟩) (o := [.k 240, .b false]) (ex := 0) (ad := 2) (junk := []) (hg := gc F.b0 (gc F.op (gc hz g0))) (e := fun st => by kernel_rfl)).to ?_
  exact mk_eq rfl rfl rfl rfl rfl F.p2 rfl
theorem s_beq_t {v k : Int} (F : Fetch mem pc 240) (hf : z = true) (hv : get mem (pc + 1) = v) (hv0 : 0 ≤ v ∧ v < 256) (hk : k = pc + 2 + (if 128 ≤ v then v - 256 else v)) (hk0 : 0 ≤ k) (hk1 : k < 65536) : Stp ⟨a, x, y, sp, Pf n z c, pc, mem⟩ ⟨a, x, y, sp, Pf n z c, k, mem⟩ := by
  have hz : (Builtin.bitAnd (Pf n z c) 2 != 0) = true := (p_z n z c).trans hf
  have ev : (mem.getD (Builtin.bitAnd (pc + 1) 65535).toNat 0) = v := F.r1 hv
  cases hs : (Builtin.bitAnd (mem.getD (Builtin.bitAnd (pc + 1) 65535).toNat 0) 128 != 0) with
  | true =>
    have hs0 := hs
    rw [ev, and128v hv0.1 hv0.2] at hs0
    have ek : Builtin.bitAnd (Builtin.bitAnd ((Builtin.bitAnd (pc + 1) 65535) + 1 - Builtin.bitXor (mem.getD (Builtin.bitAnd (pc + 1) 65535).toNat 0) 255 - 1) 65535) 65535 = k := by
      have h8 : 128 ≤ v := by by_cases q : 128 ≤ v; exact q; (rw [if_neg q] at hs0; cases hs0)
      rw [ev, F.i, xor255 hv0.1 hv0.2, and65535, and65535]; rw [if_pos h8] at hk; lia
    cases hq : (Builtin.bitAnd ((Builtin.bitAnd (pc + 1) 65535) + 1) 65280 != Builtin.bitAnd ((Builtin.bitAnd (pc + 1) 65535) + 1 - Builtin.bitXor (mem.getD (Builtin.bitAnd (pc + 1) 65535).toNat 0) 255 - 1) 65280) with
    | true =>
      refine (stp_of (m := ⟨a, x, y, sp, Pf n z c, pc, mem⟩) (m' := ⟨a, x, y, sp, Pf n z c, Builtin.bitAnd (Builtin.bitAnd ((Builtin.bitAnd (pc + 1) 65535) + 1 - Builtin.bitXor (mem.getD (Builtin.bitAnd (pc + 1) 65535).toNat 0) 255 - 1) 65535) 65535, mem⟩) (o := [.k 240, .b true, .b true, .b true]) (ex := 0 + 1 + 1) (ad := 2) (junk := []) (hg := gc F.b0 (gc F.op (gc hz (gc F.b1 (gc hs (gc hq g0)))))) (e := fun st => by kernel_rfl)).to ?_
      exact mk_eq rfl rfl rfl rfl rfl ek rfl
    | false =>
      refine (stp_of (m := ⟨a, x, y, sp, Pf n z c, pc, mem⟩) (m' := ⟨a, x, y, sp, Pf n z c, Builtin.bitAnd (Builtin.bitAnd ((Builtin.bitAnd (pc + 1) 65535) + 1 - Builtin.bitXor (mem.getD (Builtin.bitAnd (pc + 1) 65535).toNat 0) 255 - 1) 65535) 65535, mem⟩) (o := [.k 240, .b true, .b true, .b false]) (ex := 0 + 1) (ad := 2) (junk := []) (hg := gc F.b0 (gc F.op (gc hz (gc F.b1 (gc hs (gc hq g0)))))) (e := fun st => by kernel_rfl)).to ?_
      exact mk_eq rfl rfl rfl rfl rfl ek rfl
  | false =>
    have hs0 := hs
    rw [ev, and128v hv0.1 hv0.2] at hs0
    have ek : Builtin.bitAnd (Builtin.bitAnd ((Builtin.bitAnd (pc + 1) 65535) + 1 + (mem.getD (Builtin.bitAnd (pc + 1) 65535).toNat 0)) 65535) 65535 = k := by
      have h8 : ¬ 128 ≤ v := fun q => by rw [if_pos q] at hs0; cases hs0
      rw [ev, F.i, and65535, and65535]; rw [if_neg h8] at hk; lia
    cases hq : (Builtin.bitAnd ((Builtin.bitAnd (pc + 1) 65535) + 1) 65280 != Builtin.bitAnd ((Builtin.bitAnd (pc + 1) 65535) + 1 + (mem.getD (Builtin.bitAnd (pc + 1) 65535).toNat 0)) 65280) with
    | true =>
      refine (stp_of (m := ⟨a, x, y, sp, Pf n z c, pc, mem⟩) (m' := ⟨a, x, y, sp, Pf n z c, Builtin.bitAnd (Builtin.bitAnd ((Builtin.bitAnd (pc + 1) 65535) + 1 + (mem.getD (Builtin.bitAnd (pc + 1) 65535).toNat 0)) 65535) 65535, mem⟩) (o := [.k 240, .b true, .b false, .b true]) (ex := 0 + 1 + 1) (ad := 2) (junk := []) (hg := gc F.b0 (gc F.op (gc hz (gc F.b1 (gc hs (gc hq g0)))))) (e := fun st => by kernel_rfl)).to ?_
      exact mk_eq rfl rfl rfl rfl rfl ek rfl
    | false =>
      refine (stp_of (m := ⟨a, x, y, sp, Pf n z c, pc, mem⟩) (m' := ⟨a, x, y, sp, Pf n z c, Builtin.bitAnd (Builtin.bitAnd ((Builtin.bitAnd (pc + 1) 65535) + 1 + (mem.getD (Builtin.bitAnd (pc + 1) 65535).toNat 0)) 65535) 65535, mem⟩) (o := [.k 240, .b true, .b false, .b false]) (ex := 0 + 1) (ad := 2) (junk := []) (hg := gc F.b0 (gc F.op (gc hz (gc F.b1 (gc hs (gc hq g0)))))) (e := fun st => by kernel_rfl)).to ?_
      exact mk_eq rfl rfl rfl rfl rfl ek rfl
theorem s_bne_n (F : Fetch mem pc 208) (hf : z = true) : Stp ⟨a, x, y, sp, Pf n z c, pc, mem⟩ ⟨a, x, y, sp, Pf n z c, pc + 2, mem⟩ := by
  have hz : (Builtin.bitAnd (Pf n z c) 2 != 0) = true := (p_z n z c).trans hf
  refine (stp_of (m := ⟨a, x, y, sp, Pf n z c, pc, mem⟩) (m' := ⟨a, x, y, sp, Pf n z c, (Builtin.bitAnd ((Builtin.bitAnd (pc + 1) 65535) + 1) 65535), mem⟩) (o := [.k 208, .b true]) (ex := 0) (ad := 2) (junk := []) (hg := gc F.b0 (gc F.op (gc hz g0))) (e := fun st => by kernel_rfl)).to ?_
  exact mk_eq rfl rfl rfl rfl rfl F.p2 rfl
theorem s_bne_t {v k : Int} (F : Fetch mem pc 208) (hf : z = false) (hv : get mem (pc + 1) = v) (hv0 : 0 ≤ v ∧ v < 256) (hk : k = pc + 2 + (if 128 ≤ v then v - 256 else v)) (hk0 : 0 ≤ k) (hk1 : k < 65536) : Stp ⟨a, x, y, sp, Pf n z c, pc, mem⟩ ⟨a, x, y, sp, Pf n z c, k, mem⟩ := by
  have hz : (Builtin.bitAnd (Pf n z c) 2 != 0) = false := (p_z n z c).trans hf
  have ev : (mem.getD (Builtin.bitAnd (pc + 1) 65535).toNat 0) = v := F.r1 hv
  cases hs : (Builtin.bitAnd (mem.getD (Builtin.bitAnd (pc + 1) 65535).toNat 0) 128 != 0) with
  | true =>
    have hs0 := hs
    rw [ev, and128v hv0.1 hv0.2] at hs0
    have ek : Builtin.bitAnd (Builtin.bitAnd ((Builtin.bitAnd (pc + 1) 65535) + 1 - Builtin.bitXor (mem.getD (Builtin.bitAnd (pc + 1) 65535).toNat 0) 255 - 1) 65535) 65535 = k := by
      have h8 : 128 ≤ v := by by_cases q : 128 ≤ v; exact q; (rw [if_neg q] at hs0; cases hs0)
      rw [ev, F.i, xor255 hv0.1 hv0.2, and65535, and65535]; rw [if_pos h8] at hk; lia
    cases hq : (Builtin.bitAnd ((Builtin.bitAnd (pc + 1) 65535) + 1) 65280 != Builtin.bitAnd ((Builtin.bitAnd (pc + 1) 65535) + 1 - Builtin.bitXor (mem.getD (Builtin.bitAnd (pc + 1) 65535).toNat 0) 255 - 1) 65280) with
    | true =>
      refine (stp_of (m := ⟨a, x, y, sp, Pf n z c, pc, mem⟩) (m' := ⟨a, x, y, sp, Pf n z c, Builtin.bitAnd (Builtin.bitAnd ((Builtin.bitAnd (pc + 1) 65535) + 1 - Builtin.bitXor (mem.getD (Builtin.bitAnd (pc + 1) 65535).toNat 0) 255 - 1) 65535) 65535, mem⟩) (o := [.k 208, .b false, .b true, .b true]) (ex := 0 + 1 + 1) (ad := 2) (junk := []) (hg := gc F.b0 (gc F.op (gc hz (gc F.b1 (gc hs (gc hq g0)))))) (e := fun st => by kernel_rfl)).to ?_
      exact mk_eq rfl rfl rfl rfl rfl ek rfl
    | false =>
      refine (stp_of (m := ⟨a, x, y, sp, Pf n z c, pc, mem⟩) (m' := ⟨a, x, y, sp, Pf n z c, Builtin.bitAnd (Builtin.bitAnd ((Builtin.bitAnd (pc + 1) 65535) + 1 - Builtin.bitXor (mem.getD (Builtin.bitAnd (pc + 1) 65535).toNat 0) 255 - 1) 65535) 65535, mem⟩) (o := [.k 208, .b false, .b true, .b false]) (ex := 0 + 1) (ad := 2) (junk := []) (hg := gc F.b0 (gc F.op (gc hz (gc F.b1 (gc hs (gc hq g0)))))) (e := fun st => by kernel_rfl)).to ?_
      exact mk_eq rfl rfl rfl rfl rfl ek rfl
  | false =>
    have hs0 := hs
    rw [ev, and128v hv0.1 hv0.2] at hs0
    have ek : Builtin.bitAnd (Builtin.bitAnd ((Builtin.bitAnd (pc + 1) 65535) + 1 + (mem.getD (Builtin.bitAnd (pc + 1) 65535).toNat 0)) 65535) 65535 = k := by
      have h8 : ¬ 128 ≤ v := fun q => by rw [if_pos q] at hs0; cases hs0
      rw [ev, F.i, and65535, and65535]; rw [if_neg h8] at hk; lia
    cases hq : (Builtin.bitAnd ((Builtin.bitAnd (pc + 1) 65535) + 1) 65280 != Builtin.bitAnd ((Builtin.bitAnd (pc + 1) 65535) + 1 + (mem.getD (Builtin.bitAnd (pc + 1) 65535).toNat 0)) 65280) with
    | true =>
      refine (stp_of (m := ⟨a, x, y, sp, Pf n z c, pc, mem⟩) (m' := ⟨a, x, y, sp, Pf n z c, Builtin.bitAnd (Builtin.bitAnd ((Builtin.bitAnd (pc + 1) 65535) + 1 + (mem.getD (Builtin.bitAnd (pc + 1) 65535).toNat 0)) 65535) 65535, mem⟩) (o := [.k 208, .b false, .b false, .b true]) (ex := 0 + 1 + 1) (ad := 2) (junk := []) (hg := gc F.b0 (gc F.op (gc hz (gc F.b1 (gc hs (gc hq g0)))))) (e := fun st => by kernel_rfl)).to ?_
      exact mk_eq rfl rfl rfl rfl rfl ek rfl
    | false =>
      refine (stp_of (m := ⟨a, x, y, sp, Pf n z c, pc, mem⟩) (m' := ⟨a, x, y, sp, Pf n z c, Builtin.bitAnd (Builtin.bitAnd ((Builtin.bitAnd (pc + 1) 65535) + 1 + (mem.getD (Builtin.bitAnd (pc + 1) 65535).toNat 0)) 65535) 65535, mem⟩) (o := [.k 208, .b false, .b false, .b false]) (ex := 0 + 1) (ad := 2) (junk := []) (hg := gc F.b0 (gc F.op (gc hz (gc F.b1 (gc hs (gc hq g0)))))) (e := fun st => by kernel_rfl)).to ?_
      exact mk_eq rfl rfl rfl rfl rfl ek rfl
end
noncomputable def lawPm : Value := .str (Str.ofString "law_im0095_03") 2249
noncomputable def fnOfRec (i a : Nat) : Option Fn := match (pw.main.body.drop i).head? with
  | some (.FunctionDef name args body _ _ _ scope _ _ _) => some { a, name, qual := name, params := args, body, cs := scope, dV := .none, kV := .none, doc := .none, pm := lawPm, an := none, cd := .ref (a - 1), ct := .none, xs := args.args.map (·.arg), rest := (scope.names.filter fun p => p.2 == .local && !(args.args.map (·.arg)).contains p.1).map (·.1) }
  | _ => none
noncomputable def lawFns : List Fn := [(4, 1439), (5, 1446), (6, 1453), (7, 1460), (8, 1467), (10, 1532)].filterMap fun p => fnOfRec p.1 p.2
noncomputable def tupL : List (Nat × Nat × List AV) := [(1468, 2281, [.str (Str.ofString "at"), .str (Str.ofString "main")]), (1469, 2283, [.str (Str.ofString "ldy"), .cint 0]), (1470, 2285, [.str (Str.ofString "at"), .str (Str.ofString "one")]), (1471, 2287, [.str (Str.ofString "jsr"), .str (Str.ofString "resume")]), (1472, 2289, [.str (Str.ofString "sta2"), .cint 5]), (1473, 2291, [.str (Str.ofString "ldy"), .cint 1]), (1474, 2293, [.str (Str.ofString "at"), .str (Str.ofString "two")]), (1475, 2295, [.str (Str.ofString "jsr"), .str (Str.ofString "resume")]), (1476, 2297, [.str (Str.ofString "cmp2"), .cint 5]), (1477, 2299, [.str (Str.ofString "bne"), .str (Str.ofString "stop")]), (1478, 2301, [.str (Str.ofString "cmp"), .cint 0]), (1479, 2303, [.str (Str.ofString "beq"), .str (Str.ofString "same")]), (1480, 2305, [.str (Str.ofString "inc2"), .cint 7]), (1481, 2307, [.str (Str.ofString "jmp"), .str (Str.ofString "main")]), (1482, 2309, [.str (Str.ofString "at"), .str (Str.ofString "same")]), (1483, 2311, [.str (Str.ofString "inc2"), .cint 8]), (1484, 2313, [.str (Str.ofString "jmp"), .str (Str.ofString "stop")]), (1485, 2315, [.str (Str.ofString "at"), .str (Str.ofString "resume")]), (1486, 2317, [.str (Str.ofString "tsx"), .cint 0]), (1487, 2319, [.str (Str.ofString "stx2"), .cint 3]), (1488, 2321, [.str (Str.ofString "ldxy"), .cint 16]), (1489, 2323, [.str (Str.ofString "txs"), .cint 0]), (1490, 2325, [.str (Str.ofString "rts"), .cint 0]), (1491, 2327, [.str (Str.ofString "at"), .str (Str.ofString "begin")]), (1492, 2329, [.str (Str.ofString "ldxy"), .cint 20]), (1493, 2331, [.str (Str.ofString "at"), .str (Str.ofString "first")]), (1494, 2333, [.str (Str.ofString "jsr"), .str (Str.ofString "walk")]), (1495, 2335, [.str (Str.ofString "at"), .str (Str.ofString "over")]), (1496, 2337, [.str (Str.ofString "lda"), .cint 0]), (1497, 2339, [.str (Str.ofString "at"), .str (Str.ofString "last")]), (1498, 2341, [.str (Str.ofString "jsr"), .str (Str.ofString "give")]), (1499, 2343, [.str (Str.ofString "jmp"), .str (Str.ofString "over")]), (1500, 2345, [.str (Str.ofString "at"), .str (Str.ofString "walk")]), (1501, 2347, [.str (Str.ofString "ldax"), .cint 1056]), (1502, 2349, [.str (Str.ofString "beq"), .str (Str.ofString "leaf")]), (1503, 2351, [.str (Str.ofString "txa"), .cint 0]), (1504, 2353, [.str (Str.ofString "pha"), .cint 0]), (1505, 2355, [.str (Str.ofString "ldax"), .cint 1056]), (1506, 2357, [.str (Str.ofString "tax"), .cint 0]), (1507, 2359, [.str (Str.ofString "at"), .str (Str.ofString "deep")]), (1508, 2361, [.str (Str.ofString "jsr"), .str (Str.ofString "walk")]), (1509, 2363, [.str (Str.ofString "pla"), .cint 0]), (1510, 2365, [.str (Str.ofString "tax"), .cint 0]), (1511, 2367, [.str (Str.ofString "ldax"), .cint 1088]), (1512, 2369, [.str (Str.ofString "tax"), .cint 0]), (1513, 2371, [.str (Str.ofString "jmp"), .str (Str.ofString "walk")]), (1514, 2373, [.str (Str.ofString "at"), .str (Str.ofString "leaf")]), (1515, 2375, [.str (Str.ofString "ldax"), .cint 1024]), (1516, 2377, [.str (Str.ofString "at"), .str (Str.ofString "give")]), (1517, 2379, [.str (Str.ofString "sta2"), .cint 2]), (1518, 2381, [.str (Str.ofString "tsx"), .cint 0]), (1519, 2383, [.str (Str.ofString "stxy"), .cint 16]), (1520, 2385, [.str (Str.ofString "ldx2"), .cint 3]), (1521, 2387, [.str (Str.ofString "txs"), .cint 0]), (1522, 2389, [.str (Str.ofString "lda2"), .cint 2]), (1523, 2391, [.str (Str.ofString "rts"), .cint 0]), (1524, 2393, [.str (Str.ofString "at"), .str (Str.ofString "stop")])]
noncomputable def rowL : List AV := [.val (.ref 1468), .val (.ref 1469), .val (.ref 1470), .val (.ref 1471), .val (.ref 1472), .val (.ref 1473), .val (.ref 1474), .val (.ref 1475), .val (.ref 1476), .val (.ref 1477), .val (.ref 1478), .val (.ref 1479), .val (.ref 1480), .val (.ref 1481), .val (.ref 1482), .val (.ref 1483), .val (.ref 1484), .val (.ref 1485), .val (.ref 1486), .val (.ref 1487), .val (.ref 1488), .val (.ref 1489), .val (.ref 1490), .val (.ref 1491), .val (.ref 1492), .val (.ref 1493), .val (.ref 1494), .val (.ref 1495), .val (.ref 1496), .val (.ref 1497), .val (.ref 1498), .val (.ref 1499), .val (.ref 1500), .val (.ref 1501), .val (.ref 1502), .val (.ref 1503), .val (.ref 1504), .val (.ref 1505), .val (.ref 1506), .val (.ref 1507), .val (.ref 1508), .val (.ref 1509), .val (.ref 1510), .val (.ref 1511), .val (.ref 1512), .val (.ref 1513), .val (.ref 1514), .val (.ref 1515), .val (.ref 1516), .val (.ref 1517), .val (.ref 1518), .val (.ref 1519), .val (.ref 1520), .val (.ref 1521), .val (.ref 1522), .val (.ref 1523), .val (.ref 1524)]
noncomputable def globL : List (Str × Value) := [(Str.ofString "MPU", .ref 1428), (Str.ofString "_law_one", .ref 1439), (Str.ofString "_law_two", .ref 1446), (Str.ofString "_law_three", .ref 1453), (Str.ofString "_law_near", .ref 1460), (Str.ofString "_law_more", .ref 1467), (Str.ofString "_law_build", .ref 1532), (Str.ofString "_law_rows", .ref 1525)]
noncomputable def bltL : List (Str × Blt) := [(Str.ofString "len", .len), (Str.ofString "sum", .sum), (Str.ofString "range", .range), (Str.ofString "isinstance", .isinstance), (Str.ofString "bool", .bool), (Str.ofString "str", .str)]
noncomputable def U4 : Tab2 where
  T := { T4 with globs := globL, blts := bltL, fns := lawFns ++ fnsC }
  rows := [(1525, rowL)]
  tups := tupL.map fun p => (p.1, p.2.2)
noncomputable def valAt (t : Nat) : AV → Value
  | .str x => .str x t
  | .cint i => .int i t
  | .val v => v
  | _ => .none
noncomputable def simpleV : AV → Bool
  | .str _ => true
  | .cint _ => true
  | .val _ => true
  | _ => false
noncomputable def valsFrom : Nat → List AV → List Value
  | _, [] => []
  | t, x :: xs => valAt t x :: valsFrom (t + 1) xs
theorem valsFrom_ok : ∀ {xs : List AV} {t : Nat}, xs.all simpleV = true → RVs [] xs (valsFrom t xs)
  | [], _, _ => .nil
  | x :: xs, t, h => by
    rw [List.all_cons, Bool.and_eq_true] at h
    refine .cons ?_ (valsFrom_ok h.2)
    cases x <;> first | (cases h.1; done) | exact ⟨t, rfl⟩ | exact rfl
theorem u_globs (P : Params) : (globL.map fun p => nsIn (K P) mainGlobals p.1) = globL.map fun p => some (some p.2) := by kernel_rfl
theorem u_blts (P : Params) : (bltL.map fun p => nsIn (K P) mainGlobals p.1) = bltL.map fun _ => some none := by kernel_rfl
theorem u_boot : (bltL.map fun p => bootBuiltins p.1) = bltL.map fun p => some p.2.value := by kernel_rfl
theorem u_tups (P : Params) : (tupL.map fun p => (K P).lookup p.1) = tupL.map fun p => some (⟨.type "tuple", none, .seq (valsFrom p.2.1 p.2.2).toArray, #[]⟩ : Obj) := by kernel_rfl
theorem u_simple : (tupL.all fun p => p.2.2.all simpleV) = true := by kernel_rfl
theorem u_rows (P : Params) : (K P).lookup 1525 = some (⟨.type "list", none, .seq (valsFrom 0 rowL).toArray, #[]⟩ : Obj) := by kernel_rfl
theorem u_simpleR : rowL.all simpleV = true := by kernel_rfl
theorem u_keep (P : Params) : (lawFns.all fun F => keepIn (K P) (.ref F.a) && fnIn (K P) F.a && codeIn (K P) F.cd F.qual) = true := by kernel_rfl
theorem u_at (P : Params) : (lawFns.map fun F => (K P).lookup F.a) = lawFns.map fun F => some F.obj := by kernel_rfl
theorem u_sc : (lawFns.all scOk) = true := by kernel_rfl
theorem u_bind : (lawFns.map fun F => fun (v w x y : Value) => bindArgs F.data ⟨[v, w, x, y].take F.xs.length, []⟩) = lawFns.map fun F => fun v w x y => pure (F.xs.zip ([v, w, x, y].take F.xs.length)) := by kernel_rfl
theorem lawFns_ok : ∀ F ∈ lawFns, FnOk K F ∧ ∀ P, keepIn (K P) (.ref F.a) = true ∧ fnIn (K P) F.a = true := by
  intro F hF
  have s := all_of u_sc F hF
  unfold scOk at s
  simp only [Bool.and_eq_true, Bool.not_eq_true', beq_iff_eq, decide_eq_true_eq, List.all_eq_true, bne_iff_ne] at s
  obtain ⟨⟨⟨⟨⟨⟨s1, s2⟩, s3⟩, s4⟩, s5⟩, s6⟩, s7⟩ := s
  have kp := fun P => all_of (u_keep P) F hF
  simp only [Bool.and_eq_true] at kp
  refine ⟨⟨fun P => map_of (u_at P) F hF, fun P => (kp P).2, fun vs hv => ?_, s1, s6, s2, s3, s4, s5⟩, fun P => (kp P).1⟩
  obtain ⟨v, w, x, y, rfl⟩ := pad4 hv (Nat.le_of_ble_eq_true s7)
  have := map_of u_bind F hF
  exact congrFun (congrFun (congrFun (congrFun this v) w) x) y
theorem U4_ok : Tab2Ok K U4 where
  T := { T4_ok with
    globs := fun p hp P => map_of (u_globs P) p hp
    blts := fun p hp => ⟨fun P => map_of (u_blts P) p hp, map_of u_boot p hp⟩
    fns := fun F hF => by
      rcases List.mem_append.mp (show F ∈ lawFns ++ fnsC from hF) with h | h
      · exact lawFns_ok F h
      · exact fnsC_ok F h }
  rows := fun p hp P => by
    obtain rfl := List.mem_singleton.mp hp
    exact ⟨_, u_rows P, valsFrom_ok u_simpleR⟩
  tups := fun p hp P => by
    obtain ⟨q, hq, rfl⟩ := List.mem_map.mp hp
    exact ⟨_, map_of (u_tups P) q hq, valsFrom_ok (all_of u_simple q hq)⟩
noncomputable abbrev LE := lawN pw K U4
noncomputable def setL (x : Str) (v : AV) (l : List (Str × Option AV)) : List (Str × Option AV) := (setLoc x v l).getD []
noncomputable def bFn : Fn := (fnAt 1532 lawFns).getD { a := 0, name := Str.ofString "", qual := Str.ofString "", params := default, body := [], cs := default, dV := .none, kV := .none, doc := .none, pm := .none, an := none, cd := .none, ct := .none, xs := [], rest := [] }
noncomputable def b0 (o : Int) : S := ⟨[], locs0 bFn.xs [.val (.ref 1525), .int o] bFn.rest, []⟩
noncomputable def b1 (o : Int) : S := ⟨[.dict [], .tup [.obj 0, .int o]], setL (Str.ofString "spots") (.obj 0) (setL (Str.ofString "at") (.int o) (b0 o).locs), []⟩
noncomputable def bld (o : Int) := (LE 14).c 1532 [.val (.ref 1525), .int o] [] [.s .next (b1 o)]
noncomputable def bObjs (o : Int) : List AO := match bld o with
  | some (_, l, _, _) => l
  | none => []
noncomputable def bIx (o : Int) : Nat × Nat × Nat × Nat := match bld o with
  | some (.obj k, l, _, _) => match nth l k with
    | some (.tup [.obj i, .obj j]) => (k, i, j, l.length)
    | _ => (0, 0, 0, 0)
  | _ => (0, 0, 0, 0)
noncomputable def bG (o : Int) : List Prop := match bld o with
  | some (_, _, _, g) => g
  | none => []
-- GEN
noncomputable def rawO (o : Int) : List Int := [160, 0, 32, ((((((((((((((o + 2) + 3) + 2) + 2) + 3) + 2) + 2) + 2) + 2) + 2) + 3) + 2) + 3) : Int).fmod 256, ((((((((((((((o + 2) + 3) + 2) + 2) + 3) + 2) + 2) + 2) + 2) + 2) + 3) + 2) + 3) : Int).fdiv 256, 133, 5, 160, 1, 32, ((((((((((((((o + 2) + 3) + 2) + 2) + 3) + 2) + 2) + 2) + 2) + 2) + 3) + 2) + 3) : Int).fmod 256, ((((((((((((((o + 2) + 3) + 2) + 2) + 3) + 2) + 2) + 2) + 2) + 2) + 3) + 2) + 3) : Int).fdiv 256, 197, 5, 208, ((((((((((((((((((((((((((((((((((((((((((((o + 2) + 3) + 2) + 2) + 3) + 2) + 2) + 2) + 2) + 2) + 3) + 2) + 3) + 1) + 2) + 2) + 1) + 1) + 2) + 3) + 2) + 3) + 3) + 3) + 2) + 1) + 1) + 3) + 1) + 3) + 1) + 1) + 3) + 1) + 3) + 3) + 2) + 1) + 2) + 2) + 1) + 2) + 1) - o - ((14 : Nat) : Int) - 2).fmod 256, 201, 0, 240, ((((((((((((o + 2) + 3) + 2) + 2) + 3) + 2) + 2) + 2) + 2) + 2) + 3) - o - ((18 : Nat) : Int) - 2).fmod 256, 230, 7, 76, (o : Int).fmod 256, (o : Int).fdiv 256, 230, 8, 76, ((((((((((((((((((((((((((((((((((((((((((((o + 2) + 3) + 2) + 2) + 3) + 2) + 2) + 2) + 2) + 2) + 3) + 2) + 3) + 1) + 2) + 2) + 1) + 1) + 2) + 3) + 2) + 3) + 3) + 3) + 2) + 1) + 1) + 3) + 1) + 3) + 1) + 1) + 3) + 1) + 3) + 3) + 2) + 1) + 2) + 2) + 1) + 2) + 1) : Int).fmod 256, ((((((((((((((((((((((((((((((((((((((((((((o + 2) + 3) + 2) + 2) + 3) + 2) + 2) + 2) + 2) + 2) + 3) + 2) + 3) + 1) + 2) + 2) + 1) + 1) + 2) + 3) + 2) + 3) + 3) + 3) + 2) + 1) + 1) + 3) + 1) + 3) + 1) + 1) + 3) + 1) + 3) + 3) + 2) + 1) + 2) + 2) + 1) + 2) + 1) : Int).fdiv 256, 186, 134, 3, 182, 16, 154, 96, 182, 20, 32, ((((((((((((((((((((((((o + 2) + 3) + 2) + 2) + 3) + 2) + 2) + 2) + 2) + 2) + 3) + 2) + 3) + 1) + 2) + 2) + 1) + 1) + 2) + 3) + 2) + 3) + 3) : Int).fmod 256, ((((((((((((((((((((((((o + 2) + 3) + 2) + 2) + 3) + 2) + 2) + 2) + 2) + 2) + 3) + 2) + 3) + 1) + 2) + 2) + 1) + 1) + 2) + 3) + 2) + 3) + 3) : Int).fdiv 256, 169, 0, 32, (((((((((((((((((((((((((((((((((((((o + 2) + 3) + 2) + 2) + 3) + 2) + 2) + 2) + 2) + 2) + 3) + 2) + 3) + 1) + 2) + 2) + 1) + 1) + 2) + 3) + 2) + 3) + 3) + 3) + 2) + 1) + 1) + 3) + 1) + 3) + 1) + 1) + 3) + 1) + 3) + 3) : Int).fmod 256, (((((((((((((((((((((((((((((((((((((o + 2) + 3) + 2) + 2) + 3) + 2) + 2) + 2) + 2) + 2) + 3) + 2) + 3) + 1) + 2) + 2) + 1) + 1) + 2) + 3) + 2) + 3) + 3) + 3) + 2) + 1) + 1) + 3) + 1) + 3) + 1) + 1) + 3) + 1) + 3) + 3) : Int).fdiv 256, 76, (((((((((((((((((((((o + 2) + 3) + 2) + 2) + 3) + 2) + 2) + 2) + 2) + 2) + 3) + 2) + 3) + 1) + 2) + 2) + 1) + 1) + 2) + 3) : Int).fmod 256, (((((((((((((((((((((o + 2) + 3) + 2) + 2) + 3) + 2) + 2) + 2) + 2) + 2) + 3) + 2) + 3) + 1) + 2) + 2) + 1) + 1) + 2) + 3) : Int).fdiv 256, 189, (1056 : Int).fmod 256, (1056 : Int).fdiv 256, 240, ((((((((((((((((((((((((((((((((((((o + 2) + 3) + 2) + 2) + 3) + 2) + 2) + 2) + 2) + 2) + 3) + 2) + 3) + 1) + 2) + 2) + 1) + 1) + 2) + 3) + 2) + 3) + 3) + 3) + 2) + 1) + 1) + 3) + 1) + 3) + 1) + 1) + 3) + 1) + 3) - o - ((53 : Nat) : Int) - 2).fmod 256, 138, 72, 189, (1056 : Int).fmod 256, (1056 : Int).fdiv 256, 170, 32, ((((((((((((((((((((((((o + 2) + 3) + 2) + 2) + 3) + 2) + 2) + 2) + 2) + 2) + 3) + 2) + 3) + 1) + 2) + 2) + 1) + 1) + 2) + 3) + 2) + 3) + 3) : Int).fmod 256, ((((((((((((((((((((((((o + 2) + 3) + 2) + 2) + 3) + 2) + 2) + 2) + 2) + 2) + 3) + 2) + 3) + 1) + 2) + 2) + 1) + 1) + 2) + 3) + 2) + 3) + 3) : Int).fdiv 256, 104, 170, 189, (1088 : Int).fmod 256, (1088 : Int).fdiv 256, 170, 76, ((((((((((((((((((((((((o + 2) + 3) + 2) + 2) + 3) + 2) + 2) + 2) + 2) + 2) + 3) + 2) + 3) + 1) + 2) + 2) + 1) + 1) + 2) + 3) + 2) + 3) + 3) : Int).fmod 256, ((((((((((((((((((((((((o + 2) + 3) + 2) + 2) + 3) + 2) + 2) + 2) + 2) + 2) + 3) + 2) + 3) + 1) + 2) + 2) + 1) + 1) + 2) + 3) + 2) + 3) + 3) : Int).fdiv 256, 189, (1024 : Int).fmod 256, (1024 : Int).fdiv 256, 133, 2, 186, 150, 16, 166, 3, 154, 165, 2, 96]
noncomputable def rawD (o : Int) : List (Str × AV) := [(Str.ofString "main", .int o), (Str.ofString "one", .int (o + 2)), (Str.ofString "two", .int ((((o + 2) + 3) + 2) + 2)), (Str.ofString "same", .int (((((((((((o + 2) + 3) + 2) + 2) + 3) + 2) + 2) + 2) + 2) + 2) + 3)), (Str.ofString "resume", .int (((((((((((((o + 2) + 3) + 2) + 2) + 3) + 2) + 2) + 2) + 2) + 2) + 3) + 2) + 3)), (Str.ofString "begin", .int ((((((((((((((((((o + 2) + 3) + 2) + 2) + 3) + 2) + 2) + 2) + 2) + 2) + 3) + 2) + 3) + 1) + 2) + 2) + 1) + 1)), (Str.ofString "first", .int (((((((((((((((((((o + 2) + 3) + 2) + 2) + 3) + 2) + 2) + 2) + 2) + 2) + 3) + 2) + 3) + 1) + 2) + 2) + 1) + 1) + 2)), (Str.ofString "over", .int ((((((((((((((((((((o + 2) + 3) + 2) + 2) + 3) + 2) + 2) + 2) + 2) + 2) + 3) + 2) + 3) + 1) + 2) + 2) + 1) + 1) + 2) + 3)), (Str.ofString "last", .int (((((((((((((((((((((o + 2) + 3) + 2) + 2) + 3) + 2) + 2) + 2) + 2) + 2) + 3) + 2) + 3) + 1) + 2) + 2) + 1) + 1) + 2) + 3) + 2)), (Str.ofString "walk", .int (((((((((((((((((((((((o + 2) + 3) + 2) + 2) + 3) + 2) + 2) + 2) + 2) + 2) + 3) + 2) + 3) + 1) + 2) + 2) + 1) + 1) + 2) + 3) + 2) + 3) + 3)), (Str.ofString "deep", .int (((((((((((((((((((((((((((((o + 2) + 3) + 2) + 2) + 3) + 2) + 2) + 2) + 2) + 2) + 3) + 2) + 3) + 1) + 2) + 2) + 1) + 1) + 2) + 3) + 2) + 3) + 3) + 3) + 2) + 1) + 1) + 3) + 1)), (Str.ofString "leaf", .int (((((((((((((((((((((((((((((((((((o + 2) + 3) + 2) + 2) + 3) + 2) + 2) + 2) + 2) + 2) + 3) + 2) + 3) + 1) + 2) + 2) + 1) + 1) + 2) + 3) + 2) + 3) + 3) + 3) + 2) + 1) + 1) + 3) + 1) + 3) + 1) + 1) + 3) + 1) + 3)), (Str.ofString "give", .int ((((((((((((((((((((((((((((((((((((o + 2) + 3) + 2) + 2) + 3) + 2) + 2) + 2) + 2) + 2) + 3) + 2) + 3) + 1) + 2) + 2) + 1) + 1) + 2) + 3) + 2) + 3) + 3) + 3) + 2) + 1) + 1) + 3) + 1) + 3) + 1) + 1) + 3) + 1) + 3) + 3)), (Str.ofString "stop", .int (((((((((((((((((((((((((((((((((((((((((((o + 2) + 3) + 2) + 2) + 3) + 2) + 2) + 2) + 2) + 2) + 3) + 2) + 3) + 1) + 2) + 2) + 1) + 1) + 2) + 3) + 2) + 3) + 3) + 3) + 2) + 1) + 1) + 3) + 1) + 3) + 1) + 1) + 3) + 1) + 3) + 3) + 2) + 1) + 2) + 2) + 1) + 2) + 1))]
noncomputable def rawG (o : Int) : List Prop := [0 + 2 ≤ 60000, (256 : Int) ≠ 0, (256 : Int) ≠ 0, Builtin.divisionGoesByPylong (((((((((((((o + 2) + 3) + 2) + 2) + 3) + 2) + 2) + 2) + 2) + 2) + 3) + 2) + 3) 256 = false, 2 + 3 ≤ 60000, 5 + 2 ≤ 60000, 7 + 2 ≤ 60000, (256 : Int) ≠ 0, (256 : Int) ≠ 0, Builtin.divisionGoesByPylong (((((((((((((o + 2) + 3) + 2) + 2) + 3) + 2) + 2) + 2) + 2) + 2) + 3) + 2) + 3) 256 = false, 9 + 3 ≤ 60000, 12 + 2 ≤ 60000, 14 < 2 ^ 62, (256 : Int) ≠ 0, 14 + 2 ≤ 60000, 16 + 2 ≤ 60000, 18 < 2 ^ 62, (256 : Int) ≠ 0, 18 + 2 ≤ 60000, 20 + 2 ≤ 60000, (256 : Int) ≠ 0, (256 : Int) ≠ 0, Builtin.divisionGoesByPylong o 256 = false, 22 + 3 ≤ 60000, 25 + 2 ≤ 60000, (256 : Int) ≠ 0, (256 : Int) ≠ 0, Builtin.divisionGoesByPylong (((((((((((((((((((((((((((((((((((((((((((o + 2) + 3) + 2) + 2) + 3) + 2) + 2) + 2) + 2) + 2) + 3) + 2) + 3) + 1) + 2) + 2) + 1) + 1) + 2) + 3) + 2) + 3) + 3) + 3) + 2) + 1) + 1) + 3) + 1) + 3) + 1) + 1) + 3) + 1) + 3) + 3) + 2) + 1) + 2) + 2) + 1) + 2) + 1) 256 = false, 27 + 3 ≤ 60000, 30 ≤ 60000, 31 + 2 ≤ 60000, 33 + 2 ≤ 60000, 35 ≤ 60000, 36 ≤ 60000, 37 + 2 ≤ 60000, (256 : Int) ≠ 0, (256 : Int) ≠ 0, Builtin.divisionGoesByPylong (((((((((((((((((((((((o + 2) + 3) + 2) + 2) + 3) + 2) + 2) + 2) + 2) + 2) + 3) + 2) + 3) + 1) + 2) + 2) + 1) + 1) + 2) + 3) + 2) + 3) + 3) 256 = false, 39 + 3 ≤ 60000, 42 + 2 ≤ 60000, (256 : Int) ≠ 0, (256 : Int) ≠ 0, Builtin.divisionGoesByPylong ((((((((((((((((((((((((((((((((((((o + 2) + 3) + 2) + 2) + 3) + 2) + 2) + 2) + 2) + 2) + 3) + 2) + 3) + 1) + 2) + 2) + 1) + 1) + 2) + 3) + 2) + 3) + 3) + 3) + 2) + 1) + 1) + 3) + 1) + 3) + 1) + 1) + 3) + 1) + 3) + 3) 256 = false, 44 + 3 ≤ 60000, (256 : Int) ≠ 0, (256 : Int) ≠ 0, Builtin.divisionGoesByPylong ((((((((((((((((((((o + 2) + 3) + 2) + 2) + 3) + 2) + 2) + 2) + 2) + 2) + 3) + 2) + 3) + 1) + 2) + 2) + 1) + 1) + 2) + 3) 256 = false, 47 + 3 ≤ 60000, (256 : Int) ≠ 0, (256 : Int) ≠ 0, Builtin.divisionGoesByPylong (1056 : Int) 256 = false, 50 + 3 ≤ 60000, 53 < 2 ^ 62, (256 : Int) ≠ 0, 53 + 2 ≤ 60000, 55 ≤ 60000, 56 ≤ 60000, (256 : Int) ≠ 0, (256 : Int) ≠ 0, Builtin.divisionGoesByPylong (1056 : Int) 256 = false, 57 + 3 ≤ 60000, 60 ≤ 60000, (256 : Int) ≠ 0, (256 : Int) ≠ 0, Builtin.divisionGoesByPylong (((((((((((((((((((((((o + 2) + 3) + 2) + 2) + 3) + 2) + 2) + 2) + 2) + 2) + 3) + 2) + 3) + 1) + 2) + 2) + 1) + 1) + 2) + 3) + 2) + 3) + 3) 256 = false, 61 + 3 ≤ 60000, 64 ≤ 60000, 65 ≤ 60000, (256 : Int) ≠ 0, (256 : Int) ≠ 0, Builtin.divisionGoesByPylong (1088 : Int) 256 = false, 66 + 3 ≤ 60000, 69 ≤ 60000, (256 : Int) ≠ 0, (256 : Int) ≠ 0, Builtin.divisionGoesByPylong (((((((((((((((((((((((o + 2) + 3) + 2) + 2) + 3) + 2) + 2) + 2) + 2) + 2) + 3) + 2) + 3) + 1) + 2) + 2) + 1) + 1) + 2) + 3) + 2) + 3) + 3) 256 = false, 70 + 3 ≤ 60000, (256 : Int) ≠ 0, (256 : Int) ≠ 0, Builtin.divisionGoesByPylong (1024 : Int) 256 = false, 73 + 3 ≤ 60000, 76 + 2 ≤ 60000, 78 ≤ 60000, 79 + 2 ≤ 60000, 81 + 2 ≤ 60000, 83 ≤ 60000, 84 + 2 ≤ 60000, 86 ≤ 60000]
noncomputable def bSt : Stmt := match bFn.body with
  | s :: _ => s
  | [] => .Pass default
theorem b_G (o : Int) : bG o = EvS pw K ⟨bFn.cs, true⟩ 13 bSt (b0 o) .next (b1 o) :: rawG o := by kernel_rfl
noncomputable def sel3 (o : Int) : List Nat := [(bIx o).2.1, (bIx o).2.2.1, (bIx o).1]
theorem b_ren (o : Int) : renOs (sel3 o) (bObjs o) (sel3 o) = some [.il (rawO o), .dict (rawD o), .tup [.obj 0, .obj 1]] := by kernel_rfl
noncomputable def bOut (o : Int) : AV := .obj (bIx o).1
theorem b_eq (o : Int) : bld o = some (bOut o, bObjs o, [], bG o) := by kernel_rfl
noncomputable def nE : Expr := .Constant .none 0 default
/-- the parts of a statement, of an expression -/
noncomputable def sPt (s : Stmt) : List Expr × Expr × Expr × List Stmt × List Stmt × Pos := match s with
  | .Assign ts v p => (ts, v, nE, [], [], p)
  | .AugAssign t _ v p => ([], v, t, [], [], p)
  | .Expr e p => ([], e, nE, [], [], p)
  | .For t i b _ p => ([], i, t, b, [], p)
  | .While t b _ p => ([], nE, t, b, [], p)
  | .If t b e p => ([], nE, t, b, e, p)
  | .Return e p => ([], e.getD nE, nE, [], [], p)
  | .FunctionDef _ _ _ _ _ _ _ _ _ p => ([], nE, nE, [], [], p)
  | _ => ([], nE, nE, [], [], default)
noncomputable def ePt (e : Expr) : Expr × Expr × List Expr × List Keyword × Nat × Pos := match e with
  | .Call f as ks p => (f, nE, as, ks, 0, p)
  | .BinOp l _ r p => (l, r, [], [], 0, p)
  | .Subscript v s p => (v, s, [], [], 0, p)
  | .Name _ p => (nE, nE, [], [], 0, p)
  | .Constant _ _ p => (nE, nE, [], [], 0, p)
  | .Slice lo hi _ p => (lo.getD nE, hi.getD nE, [], [], 0, p)
  | .Tuple ts k p => (nE, nE, ts, [], k, p)
  | .List es p => (nE, nE, es, [], 0, p)
  | .Compare l _ _ p => (l, nE, [], [], 0, p)
  | .BoolOp _ es p => (nE, nE, es, [], 0, p)
  | .Attribute o _ p => (o, nE, [], [], 0, p)
  | _ => (nE, nE, [], [], 0, default)
noncomputable def valE (s : Stmt) : Expr := (sPt s).2.1
noncomputable def sAt (o : Int) : S := ⟨[.dict [], .tup [.obj 0, .int o]], (b0 o).locs, []⟩
theorem b_val (o : Int) : (LE 13).e ⟨bFn.cs, true⟩ (valE bSt) (b0 o) [] = some (.obj 1, sAt o, [], []) := by kernel_rfl
noncomputable def tgs (s : Stmt) : List Expr := (ePt ((sPt s).1.headD nE)).2.2.1
noncomputable def tgk (s : Stmt) : Nat := (ePt ((sPt s).1.headD nE)).2.2.2.2.1
noncomputable def tgp (s : Stmt) : Pos := (ePt ((sPt s).1.headD nE)).2.2.2.2.2
noncomputable def stp_ (s : Stmt) : Pos := (sPt s).2.2.2.2.2
theorem b_st : bSt = .Assign [.Tuple (tgs bSt) (tgk bSt) (tgp bSt)] (valE bSt) (stp_ bSt) := by kernel_rfl
theorem b_sw : swappedStores [.Tuple (tgs bSt) (tgk bSt) (tgp bSt)] (valE bSt) (envOf bFn.cs) = pure (some [Str.ofString "spots", Str.ofString "at"]) := by kernel_rfl
theorem b_bind (o : Int) : bindNs ⟨bFn.cs, true⟩ [Str.ofString "at", Str.ofString "spots"] [.int o, .obj 0] (sAt o) = some (b1 o) := by kernel_rfl
theorem b_nc : notComp (valE bSt) = true := by kernel_rfl
theorem b_first (o : Int) : EvS pw K ⟨bFn.cs, true⟩ 13 bSt (b0 o) .next (b1 o) := by
  rw [b_st]
  exact .assignW2 (xs := [.obj 0, .int o]) (names := [Str.ofString "spots", Str.ofString "at"]) rfl ((lawN_ok U4_ok 13).e (b_val o) (fun _ h => nomatch h)) (.told rfl) (b_bind o) rfl b_nc b_sw
theorem gcons {a : Prop} {l : List Prop} (h : a) (t : ∀ p ∈ l, p) : ∀ p ∈ a :: l, p := List.forall_mem_cons.mpr ⟨h, t⟩
theorem np256 (x : Int) : Builtin.divisionGoesByPylong x 256 = false := PyProof.noPylong_small (by decide)
theorem ne256 : (256 : Int) ≠ 0 := by decide
theorem rawG_ok (o : Int) : ∀ p ∈ rawG o, p := by
  unfold rawG
  repeat (first | exact g0 | refine gcons ne256 ?_ | refine gcons (np256 _) ?_ | refine gcons (by decide) ?_)
theorem b_nd (o : Int) : nodupB (sel3 o) = true := by kernel_rfl
theorem b_lt (o : Int) : ltB (bObjs o).length (sel3 o) = true := by kernel_rfl
theorem b_x (o : Int) : renV (sel3 o) (bOut o) = some (.obj 2) := by kernel_rfl
theorem build_raw (o : Int) : CallT pw K 14 1532 [.val (.ref 1525), .int o] [] (.obj 2) [.il (rawO o), .dict (rawD o), .tup [.obj 0, .obj 1]] :=
  (((lawN_ok U4_ok 14).c (b_eq o) (by rw [b_G]; exact gcons (b_first o) (rawG_ok o))).1).gc (nodupB_of (b_nd o)) (fun i h => absurd h (Nat.not_lt_zero i)) (ltB_of (b_lt o)) (b_ren o) (b_x o)
noncomputable def codeO (o : Int) : List Int := [160, 0, 32, (o + 30) % 256, (o + 30) / 256, 133, 5, 160, 1, 32, (o + 30) % 256, (o + 30) / 256, 197, 5, 208, 71, 201, 0, 240, 5, 230, 7, 76, (o + 0) % 256, (o + 0) / 256, 230, 8, 76, (o + 87) % 256, (o + 87) / 256, 186, 134, 3, 182, 16, 154, 96, 182, 20, 32, (o + 50) % 256, (o + 50) / 256, 169, 0, 32, (o + 76) % 256, (o + 76) / 256, 76, (o + 42) % 256, (o + 42) / 256, 189, 32, 4, 240, 18, 138, 72, 189, 32, 4, 170, 32, (o + 50) % 256, (o + 50) / 256, 104, 170, 189, 64, 4, 170, 76, (o + 50) % 256, (o + 50) / 256, 189, 0, 4, 133, 2, 186, 150, 16, 166, 3, 154, 165, 2, 96]
noncomputable def suL : List Int → Int → Int
  | [], o => o
  | n :: l, o => suL l (o + n)
noncomputable def suM : List Int → Int
  | [] => 0
  | n :: l => n + suM l
theorem suL_eq : ∀ (l : List Int) (o : Int), suL l o = o + suM l
  | [], o => (Int.add_zero o).symm
  | n :: l, o => (suL_eq l (o + n)).trans (Int.add_assoc o n (suM l))
theorem cn {a b : Int} {l r : List Int} (h : a = b) (g : l = r) : a :: l = b :: r := by rw [h, g]
theorem fm_of {x y : Int} (h : x = y) : x.fmod 256 = y % 256 := by rw [h, Int.fmod_eq_emod_of_nonneg _ (by decide)]
theorem fd_of {x y : Int} (h : x = y) : x.fdiv 256 = y / 256 := by rw [h, Int.fdiv_eq_ediv_of_nonneg _ (by decide)]
theorem nr_of {x o a k c : Int} (h : x = o + a) (e : (a - k - 2).fmod 256 = c) : (x - o - k - 2).fmod 256 = c := by rw [h, show o + a - o = a by lia]; exact e
theorem sp_main (o : Int) : o = o + 0 := (Int.add_zero o).symm
theorem sp_two (o : Int) : ((((o + 2) + 3) + 2) + 2) = o + 9 := (suL_eq [2, 3, 2, 2] o).trans (congrArg (o + ·) (by kernel_rfl))
theorem sp_same (o : Int) : (((((((((((o + 2) + 3) + 2) + 2) + 3) + 2) + 2) + 2) + 2) + 2) + 3) = o + 25 := (suL_eq [2, 3, 2, 2, 3, 2, 2, 2, 2, 2, 3] o).trans (congrArg (o + ·) (by kernel_rfl))
theorem sp_resume (o : Int) : (((((((((((((o + 2) + 3) + 2) + 2) + 3) + 2) + 2) + 2) + 2) + 2) + 3) + 2) + 3) = o + 30 := (suL_eq [2, 3, 2, 2, 3, 2, 2, 2, 2, 2, 3, 2, 3] o).trans (congrArg (o + ·) (by kernel_rfl))
theorem sp_begin (o : Int) : ((((((((((((((((((o + 2) + 3) + 2) + 2) + 3) + 2) + 2) + 2) + 2) + 2) + 3) + 2) + 3) + 1) + 2) + 2) + 1) + 1) = o + 37 := (suL_eq [2, 3, 2, 2, 3, 2, 2, 2, 2, 2, 3, 2, 3, 1, 2, 2, 1, 1] o).trans (congrArg (o + ·) (by kernel_rfl))
theorem sp_first (o : Int) : (((((((((((((((((((o + 2) + 3) + 2) + 2) + 3) + 2) + 2) + 2) + 2) + 2) + 3) + 2) + 3) + 1) + 2) + 2) + 1) + 1) + 2) = o + 39 := (suL_eq [2, 3, 2, 2, 3, 2, 2, 2, 2, 2, 3, 2, 3, 1, 2, 2, 1, 1, 2] o).trans (congrArg (o + ·) (by kernel_rfl))
theorem sp_over (o : Int) : ((((((((((((((((((((o + 2) + 3) + 2) + 2) + 3) + 2) + 2) + 2) + 2) + 2) + 3) + 2) + 3) + 1) + 2) + 2) + 1) + 1) + 2) + 3) = o + 42 := (suL_eq [2, 3, 2, 2, 3, 2, 2, 2, 2, 2, 3, 2, 3, 1, 2, 2, 1, 1, 2, 3] o).trans (congrArg (o + ·) (by kernel_rfl))
theorem sp_last (o : Int) : (((((((((((((((((((((o + 2) + 3) + 2) + 2) + 3) + 2) + 2) + 2) + 2) + 2) + 3) + 2) + 3) + 1) + 2) + 2) + 1) + 1) + 2) + 3) + 2) = o + 44 := (suL_eq [2, 3, 2, 2, 3, 2, 2, 2, 2, 2, 3, 2, 3, 1, 2, 2, 1, 1, 2, 3, 2] o).trans (congrArg (o + ·) (by kernel_rfl))
theorem sp_walk (o : Int) : (((((((((((((((((((((((o + 2) + 3) + 2) + 2) + 3) + 2) + 2) + 2) + 2) + 2) + 3) + 2) + 3) + 1) + 2) + 2) + 1) + 1) + 2) + 3) + 2) + 3) + 3) = o + 50 := (suL_eq [2, 3, 2, 2, 3, 2, 2, 2, 2, 2, 3, 2, 3, 1, 2, 2, 1, 1, 2, 3, 2, 3, 3] o).trans (congrArg (o + ·) (by kernel_rfl))
theorem sp_deep (o : Int) : (((((((((((((((((((((((((((((o + 2) + 3) + 2) + 2) + 3) + 2) + 2) + 2) + 2) + 2) + 3) + 2) + 3) + 1) + 2) + 2) + 1) + 1) + 2) + 3) + 2) + 3) + 3) + 3) + 2) + 1) + 1) + 3) + 1) = o + 61 := (suL_eq [2, 3, 2, 2, 3, 2, 2, 2, 2, 2, 3, 2, 3, 1, 2, 2, 1, 1, 2, 3, 2, 3, 3, 3, 2, 1, 1, 3, 1] o).trans (congrArg (o + ·) (by kernel_rfl))
theorem sp_leaf (o : Int) : (((((((((((((((((((((((((((((((((((o + 2) + 3) + 2) + 2) + 3) + 2) + 2) + 2) + 2) + 2) + 3) + 2) + 3) + 1) + 2) + 2) + 1) + 1) + 2) + 3) + 2) + 3) + 3) + 3) + 2) + 1) + 1) + 3) + 1) + 3) + 1) + 1) + 3) + 1) + 3) = o + 73 := (suL_eq [2, 3, 2, 2, 3, 2, 2, 2, 2, 2, 3, 2, 3, 1, 2, 2, 1, 1, 2, 3, 2, 3, 3, 3, 2, 1, 1, 3, 1, 3, 1, 1, 3, 1, 3] o).trans (congrArg (o + ·) (by kernel_rfl))
theorem sp_give (o : Int) : ((((((((((((((((((((((((((((((((((((o + 2) + 3) + 2) + 2) + 3) + 2) + 2) + 2) + 2) + 2) + 3) + 2) + 3) + 1) + 2) + 2) + 1) + 1) + 2) + 3) + 2) + 3) + 3) + 3) + 2) + 1) + 1) + 3) + 1) + 3) + 1) + 1) + 3) + 1) + 3) + 3) = o + 76 := (suL_eq [2, 3, 2, 2, 3, 2, 2, 2, 2, 2, 3, 2, 3, 1, 2, 2, 1, 1, 2, 3, 2, 3, 3, 3, 2, 1, 1, 3, 1, 3, 1, 1, 3, 1, 3, 3] o).trans (congrArg (o + ·) (by kernel_rfl))
theorem sp_stop (o : Int) : (((((((((((((((((((((((((((((((((((((((((((o + 2) + 3) + 2) + 2) + 3) + 2) + 2) + 2) + 2) + 2) + 3) + 2) + 3) + 1) + 2) + 2) + 1) + 1) + 2) + 3) + 2) + 3) + 3) + 3) + 2) + 1) + 1) + 3) + 1) + 3) + 1) + 1) + 3) + 1) + 3) + 3) + 2) + 1) + 2) + 2) + 1) + 2) + 1) = o + 87 := (suL_eq [2, 3, 2, 2, 3, 2, 2, 2, 2, 2, 3, 2, 3, 1, 2, 2, 1, 1, 2, 3, 2, 3, 3, 3, 2, 1, 1, 3, 1, 3, 1, 1, 3, 1, 3, 3, 2, 1, 2, 2, 1, 2, 1] o).trans (congrArg (o + ·) (by kernel_rfl))
theorem raw_eq (o : Int) : rawO o = codeO o := by
  exact (cn (rfl) (cn (rfl) (cn (rfl) (cn (fm_of (sp_resume o)) (cn (fd_of (sp_resume o)) (cn (rfl) (cn (rfl) (cn (rfl) (cn (rfl) (cn (rfl) (cn (fm_of (sp_resume o)) (cn (fd_of (sp_resume o)) (cn (rfl) (cn (rfl) (cn (rfl) (cn (nr_of (sp_stop o) rfl) (cn (rfl) (cn (rfl) (cn (rfl) (cn (nr_of (sp_same o) rfl) (cn (rfl) (cn (rfl) (cn (rfl) (cn (fm_of (sp_main o)) (cn (fd_of (sp_main o)) (cn (rfl) (cn (rfl) (cn (rfl) (cn (fm_of (sp_stop o)) (cn (fd_of (sp_stop o)) (cn (rfl) (cn (rfl) (cn (rfl) (cn (rfl) (cn (rfl) (cn (rfl) (cn (rfl) (cn (rfl) (cn (rfl) (cn (rfl) (cn (fm_of (sp_walk o)) (cn (fd_of (sp_walk o)) (cn (rfl) (cn (rfl) (cn (rfl) (cn (fm_of (sp_give o)) (cn (fd_of (sp_give o)) (cn (rfl) (cn (fm_of (sp_over o)) (cn (fd_of (sp_over o)) (cn (rfl) (cn (rfl) (cn (rfl) (cn (rfl) (cn (nr_of (sp_leaf o) rfl) (cn (rfl) (cn (rfl) (cn (rfl) (cn (rfl) (cn (rfl) (cn (rfl) (cn (rfl) (cn (fm_of (sp_walk o)) (cn (fd_of (sp_walk o)) (cn (rfl) (cn (rfl) (cn (rfl) (cn (rfl) (cn (rfl) (cn (rfl) (cn (rfl) (cn (fm_of (sp_walk o)) (cn (fd_of (sp_walk o)) (cn (rfl) (cn (rfl) (cn (rfl) (cn (rfl) (cn (rfl) (cn (rfl) (cn (rfl) (cn (rfl) (cn (rfl) (cn (rfl) (cn (rfl) (cn (rfl) (cn (rfl) (cn (rfl) rfl)))))))))))))))))))))))))))))))))))))))))))))))))))))))))))))))))))))))))))))))))))))))
/-- the code lies at o -/
structure Cd (o : Int) (mem : List Int) : Prop where
  ho : 512 ≤ o ∧ o ≤ 767
  len : mem.length = 1120
  code : ∀ k : Int, 0 ≤ k → k < 87 → get mem (o + k) = get (codeO o) k
theorem Cd.t1 {o t : Int} {mem : List Int} (H : Cd o mem) (h : decide (0 ≤ t ∧ t < 100) = true) : 0 ≤ (o + t) / 256 ∧ (o + t) / 256 < 256 := by have := H.ho; have := of_decide_eq_true h; lia
theorem tgP (t : Int) : t % 256 + t / 256 * 256 = t := by lia
theorem Cd.t3 {o t : Int} {mem : List Int} (H : Cd o mem) (h : decide (0 ≤ t ∧ t < 100) = true) : 0 ≤ o + t := by have := H.ho; have := of_decide_eq_true h; lia
theorem Cd.t4 {o t : Int} {mem : List Int} (H : Cd o mem) (h : decide (0 ≤ t ∧ t < 100) = true) : o + t < 65536 := by have := H.ho; have := of_decide_eq_true h; lia
theorem Cd.t5 {o t : Int} {mem : List Int} (H : Cd o mem) (h : decide (0 ≤ t ∧ t < 100) = true) : 512 ≤ o + t := by have := H.ho; have := of_decide_eq_true h; lia
theorem Cd.f {o : Int} {mem : List Int} (H : Cd o mem) {pc k op : Int} (e : pc = o + k) (h : decide (0 ≤ k ∧ k < 87) = true) (g : get (codeO o) k = op) : Fetch mem pc op := by
  have ho := H.ho
  have hl := H.len
  have h := of_decide_eq_true h
  subst e
  exact ⟨by lia, by lia, by lia, (H.code k h.1 h.2).trans g⟩
theorem Cd.lt {o : Int} {mem : List Int} (H : Cd o mem) {k : Int} (h : decide (k < 1120) = true) : k < mem.length := by rw [H.len]; exact of_decide_eq_true h
theorem Cd.b1 {o : Int} {mem : List Int} (H : Cd o mem) {pc k v : Int} (e : pc = o + k) (h : decide (0 ≤ k + 1 ∧ k + 1 < 87) = true) (g : get (codeO o) (k + 1) = v) : get mem (pc + 1) = v := by
  subst e
  rw [Int.add_assoc]
  exact (H.code (k + 1) (of_decide_eq_true h).1 (of_decide_eq_true h).2).trans g
theorem Cd.b2 {o : Int} {mem : List Int} (H : Cd o mem) {pc k v : Int} (e : pc = o + k) (h : decide (0 ≤ k + 2 ∧ k + 2 < 87) = true) (g : get (codeO o) (k + 2) = v) : get mem (pc + 2) = v := by
  subst e
  rw [Int.add_assoc]
  exact (H.code (k + 2) (of_decide_eq_true h).1 (of_decide_eq_true h).2).trans g
section
variable {o : Int} {mem : List Int} {a x y sp : Int} {n z c : Bool}
theorem i0 (H : Cd o mem) : Stp ⟨a, x, y, sp, Pf n z c, o + 0, mem⟩ ⟨a, x, 0, sp, Pz 0 c, o + 2, mem⟩ := by
  exact (s_ldy (H.f (k := 0) rfl rfl rfl) (H.b1 (k := 0) (v := 0) rfl rfl rfl) (by decide) (by decide)).to (mk_eq rfl rfl rfl rfl rfl (Int.add_assoc ..) rfl)
theorem i2 (H : Cd o mem) (hp : 2 ≤ sp) (hp1 : sp ≤ 255) : Stp ⟨a, x, y, sp, Pf n z c, o + 2, mem⟩ ⟨a, x, y, (sp - 2), Pf n z c, o + 30, (mem.set (sp + 256).toNat ((o + 2 + 2) / 256)).set (sp - 1 + 256).toNat ((o + 2 + 2) % 256)⟩ := by
  have ho := H.ho
  exact s_jsr (s1 := sp - 1) (H.f (k := 2) rfl rfl rfl) (by lia) (by lia) (H.b1 (k := 2) (v := (o + 30) % 256) rfl rfl rfl) (H.b2 (k := 2) (v := (o + 30) / 256) rfl rfl rfl) (H.t1 (t := 30) rfl) (tgP _) (H.t3 (t := 30) rfl) (H.t4 (t := 30) rfl) (by lia) (by lia) (H.t5 (t := 2) rfl) rfl rfl
theorem i5 (H : Cd o mem) : Stp ⟨a, x, y, sp, Pf n z c, o + 5, mem⟩ ⟨a, x, y, sp, Pf n z c, o + 7, mem.set (5 : Int).toNat a⟩ := by
  exact (s_sta2 (H.f (k := 5) rfl rfl rfl) (H.b1 (k := 5) (v := 5) rfl rfl rfl) (by decide) (H.lt rfl)).to (mk_eq rfl rfl rfl rfl rfl (Int.add_assoc ..) rfl)
theorem i7 (H : Cd o mem) : Stp ⟨a, x, y, sp, Pf n z c, o + 7, mem⟩ ⟨a, x, 1, sp, Pz 1 c, o + 9, mem⟩ := by
  exact (s_ldy (H.f (k := 7) rfl rfl rfl) (H.b1 (k := 7) (v := 1) rfl rfl rfl) (by decide) (by decide)).to (mk_eq rfl rfl rfl rfl rfl (Int.add_assoc ..) rfl)
theorem i9 (H : Cd o mem) (hp : 2 ≤ sp) (hp1 : sp ≤ 255) : Stp ⟨a, x, y, sp, Pf n z c, o + 9, mem⟩ ⟨a, x, y, (sp - 2), Pf n z c, o + 30, (mem.set (sp + 256).toNat ((o + 9 + 2) / 256)).set (sp - 1 + 256).toNat ((o + 9 + 2) % 256)⟩ := by
  have ho := H.ho
  exact s_jsr (s1 := sp - 1) (H.f (k := 9) rfl rfl rfl) (by lia) (by lia) (H.b1 (k := 9) (v := (o + 30) % 256) rfl rfl rfl) (H.b2 (k := 9) (v := (o + 30) / 256) rfl rfl rfl) (H.t1 (t := 30) rfl) (tgP _) (H.t3 (t := 30) rfl) (H.t4 (t := 30) rfl) (by lia) (by lia) (H.t5 (t := 9) rfl) rfl rfl
theorem i12 (H : Cd o mem) {v : Int} (hv : get mem 5 = v) (h0 : 0 ≤ a ∧ a < 256) (h1 : 0 ≤ v ∧ v < 256) : Stp ⟨a, x, y, sp, Pf n z c, o + 12, mem⟩ ⟨a, x, y, sp, Pc a v, o + 14, mem⟩ := by
  exact (s_cmp2 (H.f (k := 12) rfl rfl rfl) (H.b1 (k := 12) (v := 5) rfl rfl rfl) (by decide) (H.lt rfl) hv h0 h1).to (mk_eq rfl rfl rfl rfl rfl (Int.add_assoc ..) rfl)
theorem n14 (H : Cd o mem) (hf : z = true) : Stp ⟨a, x, y, sp, Pf n z c, o + 14, mem⟩ ⟨a, x, y, sp, Pf n z c, o + 16, mem⟩ := by
  exact (s_bne_n (H.f (k := 14) rfl rfl rfl) hf).to (mk_eq rfl rfl rfl rfl rfl (Int.add_assoc ..) rfl)
theorem t14 (H : Cd o mem) (hf : z = false) : Stp ⟨a, x, y, sp, Pf n z c, o + 14, mem⟩ ⟨a, x, y, sp, Pf n z c, o + 87, mem⟩ := by
  exact s_bne_t (H.f (k := 14) rfl rfl rfl) hf (H.b1 (k := 14) (v := 71) rfl rfl rfl) (by decide) (by rw [if_neg (by decide), Int.add_assoc, Int.add_assoc]; rfl) (H.t3 (t := 87) rfl) (H.t4 (t := 87) rfl)
theorem i16 (H : Cd o mem) (h0 : 0 ≤ a ∧ a < 256) : Stp ⟨a, x, y, sp, Pf n z c, o + 16, mem⟩ ⟨a, x, y, sp, Pc a 0, o + 18, mem⟩ := by
  exact (s_cmp (H.f (k := 16) rfl rfl rfl) (H.b1 (k := 16) (v := 0) rfl rfl rfl) h0 (by decide)).to (mk_eq rfl rfl rfl rfl rfl (Int.add_assoc ..) rfl)
theorem n18 (H : Cd o mem) (hf : z = false) : Stp ⟨a, x, y, sp, Pf n z c, o + 18, mem⟩ ⟨a, x, y, sp, Pf n z c, o + 20, mem⟩ := by
  exact (s_beq_n (H.f (k := 18) rfl rfl rfl) hf).to (mk_eq rfl rfl rfl rfl rfl (Int.add_assoc ..) rfl)
theorem t18 (H : Cd o mem) (hf : z = true) : Stp ⟨a, x, y, sp, Pf n z c, o + 18, mem⟩ ⟨a, x, y, sp, Pf n z c, o + 25, mem⟩ := by
  exact s_beq_t (H.f (k := 18) rfl rfl rfl) hf (H.b1 (k := 18) (v := 5) rfl rfl rfl) (by decide) (by rw [if_neg (by decide), Int.add_assoc, Int.add_assoc]; rfl) (H.t3 (t := 25) rfl) (H.t4 (t := 25) rfl)
theorem i20 (H : Cd o mem) {u : Int} (hu : get mem 7 = u) (h0 : 0 ≤ u) (h1 : u < 255) : Stp ⟨a, x, y, sp, Pf n z c, o + 20, mem⟩ ⟨a, x, y, sp, Pz (u + 1) c, o + 22, mem.set (7 : Int).toNat (u + 1)⟩ := by
  have ho := H.ho
  exact (s_inc2 (H.f (k := 20) rfl rfl rfl) (H.b1 (k := 20) (v := 7) rfl rfl rfl) (by decide) (H.lt rfl) hu (by lia)).to (mk_eq rfl rfl rfl rfl rfl (Int.add_assoc ..) rfl)
theorem i22 (H : Cd o mem) : Stp ⟨a, x, y, sp, Pf n z c, o + 22, mem⟩ ⟨a, x, y, sp, Pf n z c, o + 0, mem⟩ := by
  exact s_jmp (H.f (k := 22) rfl rfl rfl) (H.b1 (k := 22) (v := (o + 0) % 256) rfl rfl rfl) (H.b2 (k := 22) (v := (o + 0) / 256) rfl rfl rfl) (H.t1 (t := 0) rfl) (tgP _) (H.t3 (t := 0) rfl) (H.t4 (t := 0) rfl)
theorem i25 (H : Cd o mem) {u : Int} (hu : get mem 8 = u) (h0 : 0 ≤ u) (h1 : u < 255) : Stp ⟨a, x, y, sp, Pf n z c, o + 25, mem⟩ ⟨a, x, y, sp, Pz (u + 1) c, o + 27, mem.set (8 : Int).toNat (u + 1)⟩ := by
  have ho := H.ho
  exact (s_inc2 (H.f (k := 25) rfl rfl rfl) (H.b1 (k := 25) (v := 8) rfl rfl rfl) (by decide) (H.lt rfl) hu (by lia)).to (mk_eq rfl rfl rfl rfl rfl (Int.add_assoc ..) rfl)
theorem i27 (H : Cd o mem) : Stp ⟨a, x, y, sp, Pf n z c, o + 27, mem⟩ ⟨a, x, y, sp, Pf n z c, o + 87, mem⟩ := by
  exact s_jmp (H.f (k := 27) rfl rfl rfl) (H.b1 (k := 27) (v := (o + 87) % 256) rfl rfl rfl) (H.b2 (k := 27) (v := (o + 87) / 256) rfl rfl rfl) (H.t1 (t := 87) rfl) (tgP _) (H.t3 (t := 87) rfl) (H.t4 (t := 87) rfl)
theorem i30 (H : Cd o mem) (h0 : 0 ≤ sp) (h1 : sp < 256) : Stp ⟨a, x, y, sp, Pf n z c, o + 30, mem⟩ ⟨a, sp, y, sp, Pz sp c, o + 31, mem⟩ := by
  exact (s_tsx (H.f (k := 30) rfl rfl rfl) rfl h0 h1).to (mk_eq rfl rfl rfl rfl rfl (Int.add_assoc ..) rfl)
theorem i31 (H : Cd o mem) : Stp ⟨a, x, y, sp, Pf n z c, o + 31, mem⟩ ⟨a, x, y, sp, Pf n z c, o + 33, mem.set (3 : Int).toNat x⟩ := by
  exact (s_stx2 (H.f (k := 31) rfl rfl rfl) (H.b1 (k := 31) (v := 3) rfl rfl rfl) (by decide) (H.lt rfl)).to (mk_eq rfl rfl rfl rfl rfl (Int.add_assoc ..) rfl)
theorem i33 (H : Cd o mem) {v : Int} (hy : 0 ≤ y ∧ y ≤ 1) (hv : get mem (y + 16) = v) (h0 : 0 ≤ v) (h1 : v < 256) : Stp ⟨a, x, y, sp, Pf n z c, o + 33, mem⟩ ⟨a, v, y, sp, Pz v c, o + 35, mem⟩ := by
  have ho := H.ho
  exact (s_ldxy (H.f (k := 33) rfl rfl rfl) (H.b1 (k := 33) (v := 16) rfl rfl rfl) (k := y + 16) (by lia) (by have := H.len; lia) hv h0 h1).to (mk_eq rfl rfl rfl rfl rfl (Int.add_assoc ..) rfl)
theorem i35 (H : Cd o mem) : Stp ⟨a, x, y, sp, Pf n z c, o + 35, mem⟩ ⟨a, x, y, x, Pf n z c, o + 36, mem⟩ := by
  exact (s_txs (H.f (k := 35) rfl rfl rfl)).to (mk_eq rfl rfl rfl rfl rfl (Int.add_assoc ..) rfl)
theorem i36 (H : Cd o mem) {lo hi r : Int} (hp : 0 ≤ sp) (hp1 : sp ≤ 253) (hlo : get mem (sp + 257) = lo) (hhi : get mem (sp + 258) = hi) (hh0 : 0 ≤ hi ∧ hi < 256) (hk : lo + hi * 256 + 1 = r) (hk0 : 0 ≤ r) (hk1 : r < 65536) : Stp ⟨a, x, y, sp, Pf n z c, o + 36, mem⟩ ⟨a, x, y, (sp + 2), Pf n z c, r, mem⟩ := by
  have ho := H.ho
  exact s_rts (s1 := sp + 1) (H.f (k := 36) rfl rfl rfl) (by lia) (by lia) (by rw [show sp + 1 + 256 = sp + 257 by lia]; exact hlo) (by rw [show sp + 2 + 256 = sp + 258 by lia]; exact hhi) hh0 hk hk0 hk1 (by have := H.len; lia)
theorem i37 (H : Cd o mem) {v : Int} (hy : 0 ≤ y ∧ y ≤ 1) (hv : get mem (y + 20) = v) (h0 : 0 ≤ v) (h1 : v < 256) : Stp ⟨a, x, y, sp, Pf n z c, o + 37, mem⟩ ⟨a, v, y, sp, Pz v c, o + 39, mem⟩ := by
  have ho := H.ho
  exact (s_ldxy (H.f (k := 37) rfl rfl rfl) (H.b1 (k := 37) (v := 20) rfl rfl rfl) (k := y + 20) (by lia) (by have := H.len; lia) hv h0 h1).to (mk_eq rfl rfl rfl rfl rfl (Int.add_assoc ..) rfl)
theorem i39 (H : Cd o mem) (hp : 2 ≤ sp) (hp1 : sp ≤ 255) : Stp ⟨a, x, y, sp, Pf n z c, o + 39, mem⟩ ⟨a, x, y, (sp - 2), Pf n z c, o + 50, (mem.set (sp + 256).toNat ((o + 39 + 2) / 256)).set (sp - 1 + 256).toNat ((o + 39 + 2) % 256)⟩ := by
  have ho := H.ho
  exact s_jsr (s1 := sp - 1) (H.f (k := 39) rfl rfl rfl) (by lia) (by lia) (H.b1 (k := 39) (v := (o + 50) % 256) rfl rfl rfl) (H.b2 (k := 39) (v := (o + 50) / 256) rfl rfl rfl) (H.t1 (t := 50) rfl) (tgP _) (H.t3 (t := 50) rfl) (H.t4 (t := 50) rfl) (by lia) (by lia) (H.t5 (t := 39) rfl) rfl rfl
theorem i42 (H : Cd o mem) : Stp ⟨a, x, y, sp, Pf n z c, o + 42, mem⟩ ⟨0, x, y, sp, Pz 0 c, o + 44, mem⟩ := by
  exact (s_lda (H.f (k := 42) rfl rfl rfl) (H.b1 (k := 42) (v := 0) rfl rfl rfl) (by decide) (by decide)).to (mk_eq rfl rfl rfl rfl rfl (Int.add_assoc ..) rfl)
theorem i44 (H : Cd o mem) (hp : 2 ≤ sp) (hp1 : sp ≤ 255) : Stp ⟨a, x, y, sp, Pf n z c, o + 44, mem⟩ ⟨a, x, y, (sp - 2), Pf n z c, o + 76, (mem.set (sp + 256).toNat ((o + 44 + 2) / 256)).set (sp - 1 + 256).toNat ((o + 44 + 2) % 256)⟩ := by
  have ho := H.ho
  exact s_jsr (s1 := sp - 1) (H.f (k := 44) rfl rfl rfl) (by lia) (by lia) (H.b1 (k := 44) (v := (o + 76) % 256) rfl rfl rfl) (H.b2 (k := 44) (v := (o + 76) / 256) rfl rfl rfl) (H.t1 (t := 76) rfl) (tgP _) (H.t3 (t := 76) rfl) (H.t4 (t := 76) rfl) (by lia) (by lia) (H.t5 (t := 44) rfl) rfl rfl
theorem i50 (H : Cd o mem) {v : Int} (hx : 0 ≤ x ∧ x < 32) (hv : get mem (1056 + x) = v) (h0 : 0 ≤ v) (h1 : v < 256) : Stp ⟨a, x, y, sp, Pf n z c, o + 50, mem⟩ ⟨v, x, y, sp, Pz v c, o + 53, mem⟩ := by
  have ho := H.ho
  exact (s_ldax (k := 1056 + x) (H.f (k := 50) rfl rfl rfl) (H.b1 (k := 50) (v := 32) rfl rfl rfl) (H.b2 (k := 50) (v := 4) rfl rfl rfl) (by decide) (by decide) (by lia) (by lia) (by have := H.len; lia) hv h0 h1).to (mk_eq rfl rfl rfl rfl rfl (Int.add_assoc ..) rfl)
theorem n53 (H : Cd o mem) (hf : z = false) : Stp ⟨a, x, y, sp, Pf n z c, o + 53, mem⟩ ⟨a, x, y, sp, Pf n z c, o + 55, mem⟩ := by
  exact (s_beq_n (H.f (k := 53) rfl rfl rfl) hf).to (mk_eq rfl rfl rfl rfl rfl (Int.add_assoc ..) rfl)
theorem t53 (H : Cd o mem) (hf : z = true) : Stp ⟨a, x, y, sp, Pf n z c, o + 53, mem⟩ ⟨a, x, y, sp, Pf n z c, o + 73, mem⟩ := by
  exact s_beq_t (H.f (k := 53) rfl rfl rfl) hf (H.b1 (k := 53) (v := 18) rfl rfl rfl) (by decide) (by rw [if_neg (by decide), Int.add_assoc, Int.add_assoc]; rfl) (H.t3 (t := 73) rfl) (H.t4 (t := 73) rfl)
theorem i55 (H : Cd o mem) (h0 : 0 ≤ x) (h1 : x < 256) : Stp ⟨a, x, y, sp, Pf n z c, o + 55, mem⟩ ⟨x, x, y, sp, Pz x c, o + 56, mem⟩ := by
  exact (s_txa (H.f (k := 55) rfl rfl rfl) rfl h0 h1).to (mk_eq rfl rfl rfl rfl rfl (Int.add_assoc ..) rfl)
theorem i56 (H : Cd o mem) (ha : 0 ≤ a) (ha1 : a < 256) (hp : 1 ≤ sp) (hp1 : sp ≤ 255) : Stp ⟨a, x, y, sp, Pf n z c, o + 56, mem⟩ ⟨a, x, y, (sp - 1), Pf n z c, o + 57, mem.set (sp + 256).toNat a⟩ := by
  have ho := H.ho
  exact (s_pha (H.f (k := 56) rfl rfl rfl) (by lia) ha ha1 (by lia) (by have := H.len; lia)).to (mk_eq rfl rfl rfl rfl rfl (Int.add_assoc ..) rfl)
theorem i57 (H : Cd o mem) {v : Int} (hx : 0 ≤ x ∧ x < 32) (hv : get mem (1056 + x) = v) (h0 : 0 ≤ v) (h1 : v < 256) : Stp ⟨a, x, y, sp, Pf n z c, o + 57, mem⟩ ⟨v, x, y, sp, Pz v c, o + 60, mem⟩ := by
  have ho := H.ho
  exact (s_ldax (k := 1056 + x) (H.f (k := 57) rfl rfl rfl) (H.b1 (k := 57) (v := 32) rfl rfl rfl) (H.b2 (k := 57) (v := 4) rfl rfl rfl) (by decide) (by decide) (by lia) (by lia) (by have := H.len; lia) hv h0 h1).to (mk_eq rfl rfl rfl rfl rfl (Int.add_assoc ..) rfl)
theorem i60 (H : Cd o mem) (h0 : 0 ≤ a) (h1 : a < 256) : Stp ⟨a, x, y, sp, Pf n z c, o + 60, mem⟩ ⟨a, a, y, sp, Pz a c, o + 61, mem⟩ := by
  exact (s_tax (H.f (k := 60) rfl rfl rfl) rfl h0 h1).to (mk_eq rfl rfl rfl rfl rfl (Int.add_assoc ..) rfl)
theorem i61 (H : Cd o mem) (hp : 2 ≤ sp) (hp1 : sp ≤ 255) : Stp ⟨a, x, y, sp, Pf n z c, o + 61, mem⟩ ⟨a, x, y, (sp - 2), Pf n z c, o + 50, (mem.set (sp + 256).toNat ((o + 61 + 2) / 256)).set (sp - 1 + 256).toNat ((o + 61 + 2) % 256)⟩ := by
  have ho := H.ho
  exact s_jsr (s1 := sp - 1) (H.f (k := 61) rfl rfl rfl) (by lia) (by lia) (H.b1 (k := 61) (v := (o + 50) % 256) rfl rfl rfl) (H.b2 (k := 61) (v := (o + 50) / 256) rfl rfl rfl) (H.t1 (t := 50) rfl) (tgP _) (H.t3 (t := 50) rfl) (H.t4 (t := 50) rfl) (by lia) (by lia) (H.t5 (t := 61) rfl) rfl rfl
theorem i64 (H : Cd o mem) {v : Int} (hv : get mem (sp + 1 + 256) = v) (h0 : 0 ≤ v) (h1 : v < 256) (hp : 0 ≤ sp) (hp1 : sp ≤ 254) : Stp ⟨a, x, y, sp, Pf n z c, o + 64, mem⟩ ⟨v, x, y, (sp + 1), Pz v c, o + 65, mem⟩ := by
  have ho := H.ho
  exact (s_pla (H.f (k := 64) rfl rfl rfl) (by lia) hv h0 h1 (by have := H.len; lia)).to (mk_eq rfl rfl rfl rfl rfl (Int.add_assoc ..) rfl)
theorem i65 (H : Cd o mem) (h0 : 0 ≤ a) (h1 : a < 256) : Stp ⟨a, x, y, sp, Pf n z c, o + 65, mem⟩ ⟨a, a, y, sp, Pz a c, o + 66, mem⟩ := by
  exact (s_tax (H.f (k := 65) rfl rfl rfl) rfl h0 h1).to (mk_eq rfl rfl rfl rfl rfl (Int.add_assoc ..) rfl)
theorem i66 (H : Cd o mem) {v : Int} (hx : 0 ≤ x ∧ x < 32) (hv : get mem (1088 + x) = v) (h0 : 0 ≤ v) (h1 : v < 256) : Stp ⟨a, x, y, sp, Pf n z c, o + 66, mem⟩ ⟨v, x, y, sp, Pz v c, o + 69, mem⟩ := by
  have ho := H.ho
  exact (s_ldax (k := 1088 + x) (H.f (k := 66) rfl rfl rfl) (H.b1 (k := 66) (v := 64) rfl rfl rfl) (H.b2 (k := 66) (v := 4) rfl rfl rfl) (by decide) (by decide) (by lia) (by lia) (by have := H.len; lia) hv h0 h1).to (mk_eq rfl rfl rfl rfl rfl (Int.add_assoc ..) rfl)
theorem i69 (H : Cd o mem) (h0 : 0 ≤ a) (h1 : a < 256) : Stp ⟨a, x, y, sp, Pf n z c, o + 69, mem⟩ ⟨a, a, y, sp, Pz a c, o + 70, mem⟩ := by
  exact (s_tax (H.f (k := 69) rfl rfl rfl) rfl h0 h1).to (mk_eq rfl rfl rfl rfl rfl (Int.add_assoc ..) rfl)
theorem i70 (H : Cd o mem) : Stp ⟨a, x, y, sp, Pf n z c, o + 70, mem⟩ ⟨a, x, y, sp, Pf n z c, o + 50, mem⟩ := by
  exact s_jmp (H.f (k := 70) rfl rfl rfl) (H.b1 (k := 70) (v := (o + 50) % 256) rfl rfl rfl) (H.b2 (k := 70) (v := (o + 50) / 256) rfl rfl rfl) (H.t1 (t := 50) rfl) (tgP _) (H.t3 (t := 50) rfl) (H.t4 (t := 50) rfl)
theorem i73 (H : Cd o mem) {v : Int} (hx : 0 ≤ x ∧ x < 32) (hv : get mem (1024 + x) = v) (h0 : 0 ≤ v) (h1 : v < 256) : Stp ⟨a, x, y, sp, Pf n z c, o + 73, mem⟩ ⟨v, x, y, sp, Pz v c, o + 76, mem⟩ := by
  have ho := H.ho
  exact (s_ldax (k := 1024 + x) (H.f (k := 73) rfl rfl rfl) (H.b1 (k := 73) (v := 0) rfl rfl rfl) (H.b2 (k := 73) (v := 4) rfl rfl rfl) (by decide) (by decide) (by lia) (by lia) (by have := H.len; lia) hv h0 h1).to (mk_eq rfl rfl rfl rfl rfl (Int.add_assoc ..) rfl)
theorem i76 (H : Cd o mem) : Stp ⟨a, x, y, sp, Pf n z c, o + 76, mem⟩ ⟨a, x, y, sp, Pf n z c, o + 78, mem.set (2 : Int).toNat a⟩ := by
  exact (s_sta2 (H.f (k := 76) rfl rfl rfl) (H.b1 (k := 76) (v := 2) rfl rfl rfl) (by decide) (H.lt rfl)).to (mk_eq rfl rfl rfl rfl rfl (Int.add_assoc ..) rfl)
theorem i78 (H : Cd o mem) (h0 : 0 ≤ sp) (h1 : sp < 256) : Stp ⟨a, x, y, sp, Pf n z c, o + 78, mem⟩ ⟨a, sp, y, sp, Pz sp c, o + 79, mem⟩ := by
  exact (s_tsx (H.f (k := 78) rfl rfl rfl) rfl h0 h1).to (mk_eq rfl rfl rfl rfl rfl (Int.add_assoc ..) rfl)
theorem i79 (H : Cd o mem) (hy : 0 ≤ y ∧ y ≤ 1) : Stp ⟨a, x, y, sp, Pf n z c, o + 79, mem⟩ ⟨a, x, y, sp, Pf n z c, o + 81, mem.set (y + 16).toNat x⟩ := by
  have ho := H.ho
  exact (s_stxy (H.f (k := 79) rfl rfl rfl) (H.b1 (k := 79) (v := 16) rfl rfl rfl) (k := y + 16) (by lia) (by have := H.len; lia)).to (mk_eq rfl rfl rfl rfl rfl (Int.add_assoc ..) rfl)
theorem i81 (H : Cd o mem) {v : Int} (hv : get mem 3 = v) (h0 : 0 ≤ v) (h1 : v < 256) : Stp ⟨a, x, y, sp, Pf n z c, o + 81, mem⟩ ⟨a, v, y, sp, Pz v c, o + 83, mem⟩ := by
  exact (s_ldx2 (H.f (k := 81) rfl rfl rfl) (H.b1 (k := 81) (v := 3) rfl rfl rfl) (by decide) (H.lt rfl) hv h0 h1).to (mk_eq rfl rfl rfl rfl rfl (Int.add_assoc ..) rfl)
theorem i83 (H : Cd o mem) : Stp ⟨a, x, y, sp, Pf n z c, o + 83, mem⟩ ⟨a, x, y, x, Pf n z c, o + 84, mem⟩ := by
  exact (s_txs (H.f (k := 83) rfl rfl rfl)).to (mk_eq rfl rfl rfl rfl rfl (Int.add_assoc ..) rfl)
theorem i84 (H : Cd o mem) {v : Int} (hv : get mem 2 = v) (h0 : 0 ≤ v) (h1 : v < 256) : Stp ⟨a, x, y, sp, Pf n z c, o + 84, mem⟩ ⟨v, x, y, sp, Pz v c, o + 86, mem⟩ := by
  exact (s_lda2 (H.f (k := 84) rfl rfl rfl) (H.b1 (k := 84) (v := 2) rfl rfl rfl) (by decide) (H.lt rfl) hv h0 h1).to (mk_eq rfl rfl rfl rfl rfl (Int.add_assoc ..) rfl)
theorem i86 (H : Cd o mem) {lo hi r : Int} (hp : 0 ≤ sp) (hp1 : sp ≤ 253) (hlo : get mem (sp + 257) = lo) (hhi : get mem (sp + 258) = hi) (hh0 : 0 ≤ hi ∧ hi < 256) (hk : lo + hi * 256 + 1 = r) (hk0 : 0 ≤ r) (hk1 : r < 65536) : Stp ⟨a, x, y, sp, Pf n z c, o + 86, mem⟩ ⟨a, x, y, (sp + 2), Pf n z c, r, mem⟩ := by
  have ho := H.ho
  exact s_rts (s1 := sp + 1) (H.f (k := 86) rfl rfl rfl) (by lia) (by lia) (by rw [show sp + 1 + 256 = sp + 257 by lia]; exact hlo) (by rw [show sp + 2 + 256 = sp + 258 by lia]; exact hhi) hh0 hk hk0 hk1 (by have := H.len; lia)
end
inductive Tr where
  | leaf (i : Nat) (v : Int)
  | node (i : Nat) (l r : Tr)
noncomputable def Tr.id : Tr → Nat
  | .leaf i _ => i
  | .node i _ _ => i
noncomputable def Tr.lv : Tr → List Int
  | .leaf _ v => [v]
  | .node _ l r => l.lv ++ r.lv
/-- numbered in the order in which they were met, from k + 1 up to k' -/
noncomputable def Tr.Ok : Nat → Tr → Nat → Prop
  | k, .leaf i _, k' => i = k + 1 ∧ k' = k + 1
  | k, .node i l r, k' => i = k + 1 ∧ ∃ k1, Tr.Ok (k + 1) l k1 ∧ Tr.Ok k1 r k'
noncomputable def putT : Tr → List Int → List Int
  | .leaf i v, m => m.set (1024 + (i : Int)).toNat v
  | .node i l r, m => (putT r ((putT l m).set (1056 + (i : Int)).toNat (l.id : Int))).set (1088 + (i : Int)).toNat (r.id : Int)
theorem Tr.lv_pos : ∀ t : Tr, 1 ≤ t.lv.length
  | .leaf _ _ => Nat.le_refl _
  | .node _ l r => by
    have := Tr.lv_pos l
    unfold Tr.lv
    rw [List.length_append]
    lia
theorem Tr.Ok.num : ∀ {t : Tr} {k k' : Nat}, Tr.Ok k t k' → k' + 1 = k + 2 * t.lv.length ∧ k < t.id ∧ t.id ≤ k'
  | .leaf i v, k, k', h => by
    obtain ⟨h1, h2⟩ := h
    unfold Tr.lv Tr.id
    simp only [List.length_cons, List.length_nil]
    lia
  | .node i l r, k, k', h => by
    obtain ⟨h1, k1, h2, h3⟩ := h
    have a := h2.num
    have b := h3.num
    have pl := l.lv_pos
    have pr := r.lv_pos
    show k' + 1 = k + 2 * (l.lv ++ r.lv).length ∧ k < i ∧ i ≤ k'
    rw [List.length_append]
    lia
theorem putT_len : ∀ (t : Tr) (m : List Int), (putT t m).length = m.length
  | .leaf _ _, m => List.length_set ..
  | .node _ l r, m => by
    unfold putT
    rw [List.length_set, putT_len r, List.length_set, putT_len l]
theorem get_set {mem : List Int} {i j v : Int} (hi : 0 ≤ i) (hj : 0 ≤ j) (h : j < mem.length) : get (mem.set j.toNat v) i = if i = j then v else get mem i := by
  unfold get
  rw [List.getD_eq_getElem?_getD, List.getD_eq_getElem?_getD]
  by_cases e : i = j
  · subst e
    rw [if_pos rfl, List.getElem?_set_self (by lia)]
    rfl
  · rw [if_neg e, List.getElem?_set_ne (by lia)]
theorem get_ne {mem : List Int} {i j v : Int} (hi : 0 ≤ i) (hj : 0 ≤ j) (h : j < mem.length) (e : i ≠ j) : get (mem.set j.toNat v) i = get mem i := by rw [get_set hi hj h, if_neg e]
theorem get_eq {mem : List Int} {j v : Int} (hj : 0 ≤ j) (h : j < mem.length) : get (mem.set j.toNat v) j = v := by rw [get_set hj hj h, if_pos rfl]
/-- the tree lies in the memory -/
noncomputable def Has (m : List Int) : Tr → Prop
  | .leaf i v => get m (1024 + (i : Int)) = v ∧ get m (1056 + (i : Int)) = 0
  | .node i l r => get m (1056 + (i : Int)) = l.id ∧ get m (1088 + (i : Int)) = r.id ∧ Has m l ∧ Has m r
/-- outside of the cells of the numbers from k + 1 up to k' -/
noncomputable def Out_ (k k' : Nat) (i : Int) : Prop := ∀ j : Nat, k < j → j ≤ k' → i ≠ 1024 + (j : Int) ∧ i ≠ 1056 + (j : Int) ∧ i ≠ 1088 + (j : Int)
theorem Has.keep : ∀ {t : Tr} {k k' : Nat} {m m' : List Int}, Tr.Ok k t k' → Has m t → (∀ j : Nat, k < j → j ≤ k' → get m' (1024 + (j : Int)) = get m (1024 + (j : Int)) ∧ get m' (1056 + (j : Int)) = get m (1056 + (j : Int)) ∧ get m' (1088 + (j : Int)) = get m (1088 + (j : Int))) → Has m' t
  | .leaf i v, k, k', m, m', h, H, e => by
    obtain ⟨h1, h2⟩ := h
    have := e i (by lia) (by lia)
    exact ⟨this.1.trans H.1, this.2.1.trans H.2⟩
  | .node i l r, k, k', m, m', h, H, e => by
    obtain ⟨h1, k1, h2, h3⟩ := h
    have a := h2.num
    have b := h3.num
    have pl := l.lv_pos
    have pr := r.lv_pos
    have := e i (by lia) (by lia)
    exact ⟨this.2.1.trans H.1, this.2.2.trans H.2.1, H.2.2.1.keep h2 fun j h4 h5 => e j (by lia) (by lia), H.2.2.2.keep h3 fun j h4 h5 => e j (by lia) (by lia)⟩
theorem putT_node {i : Nat} {l r : Tr} {m : List Int} : putT (.node i l r) m = (putT r ((putT l m).set (1056 + (i : Int)).toNat (l.id : Int))).set (1088 + (i : Int)).toNat (r.id : Int) := rfl
theorem putT_out : ∀ {t : Tr} {k k' : Nat} {m : List Int} {i : Int}, Tr.Ok k t k' → k' ≤ 31 → m.length = 1120 → 0 ≤ i → Out_ k k' i → get (putT t m) i = get m i
  | .leaf j v, k, k', m, i, h, hk, hm, hi, o => by
    obtain ⟨h1, h2⟩ := h
    have := o j (by lia) (by lia)
    exact get_ne hi (by lia) (by lia) this.1
  | .node j l r, k, k', m, i, h, hk, hm, hi, o => by
    obtain ⟨h1, k1, h2, h3⟩ := h
    have a := h2.num
    have b := h3.num
    have pl := l.lv_pos
    have pr := r.lv_pos
    have q := o j (by lia) (by lia)
    rw [putT_node, get_ne hi (by lia) (by rw [putT_len, List.length_set, putT_len]; lia) q.2.2, putT_out h3 hk (by rw [List.length_set, putT_len]; exact hm) hi (fun x h4 h5 => o x (by lia) h5), get_ne hi (by lia) (by rw [putT_len]; lia) q.2.1, putT_out h2 (by lia) hm hi fun x h4 h5 => o x (by lia) (by lia)]
theorem putT_has : ∀ {t : Tr} {k k' : Nat} {m : List Int}, Tr.Ok k t k' → k' ≤ 31 → m.length = 1120 → (∀ j : Nat, k < j → j ≤ 31 → get m (1056 + (j : Int)) = 0) → Has (putT t m) t
  | .leaf j v, k, k', m, h, hk, hm, z => by
    obtain ⟨h1, h2⟩ := h
    exact ⟨get_eq (by lia) (by lia), (get_ne (by lia) (by lia) (by lia) (by lia)).trans (z j (by lia) (by lia))⟩
  | .node j l r, k, k', m, h, hk, hm, z => by
    obtain ⟨h1, k1, h2, h3⟩ := h
    have a := h2.num
    have b := h3.num
    have pl := l.lv_pos
    have pr := r.lv_pos
    have H1 := putT_has h2 (by lia) hm fun x h4 h5 => z x (by lia) h5
    have l1 : (putT l m).length = 1120 := (putT_len ..).trans hm
    have l2 : ((putT l m).set (1056 + (j : Int)).toNat (l.id : Int)).length = 1120 := (List.length_set ..).trans l1
    have l3 : (putT r ((putT l m).set (1056 + (j : Int)).toNat (l.id : Int))).length = 1120 := (putT_len ..).trans l2
    have H2 := putT_has h3 hk l2 fun x h4 h5 => by
      rw [get_ne (by lia) (by lia) (by lia) (by lia), putT_out h2 (by lia) hm (by lia) (fun y h6 h7 => ⟨by lia, by lia, by lia⟩)]
      exact z x (by lia) h5
    refine ⟨?_, get_eq (by lia) (by lia), H1.keep h2 fun x h4 h5 => ?_, H2.keep h3 fun x h4 h5 => ?_⟩
    · rw [putT_node]
      rw [get_ne (by lia) (by lia) (by lia) (by lia), putT_out h3 hk l2 (by lia) (fun y h6 h7 => ⟨by lia, by lia, by lia⟩), get_eq (by lia) (by lia)]
    · rw [putT_node]
      have o1 : ∀ i : Int, Out_ k1 k' i → 0 ≤ i → i ≠ 1056 + (j : Int) → i ≠ 1088 + (j : Int) → get ((putT r ((putT l m).set (1056 + (j : Int)).toNat (l.id : Int))).set (1088 + (j : Int)).toNat (r.id : Int)) i = get (putT l m) i := fun i g1 g2 g3 g4 => by
        rw [get_ne g2 (by lia) (by lia) g4, putT_out h3 hk l2 g2 g1, get_ne g2 (by lia) (by lia) g3]
      exact ⟨o1 (1024 + (x : Int)) (fun y h6 h7 => ⟨by lia, by lia, by lia⟩) (by lia) (by lia) (by lia), o1 (1056 + (x : Int)) (fun y h6 h7 => ⟨by lia, by lia, by lia⟩) (by lia) (by lia) (by lia), o1 (1088 + (x : Int)) (fun y h6 h7 => ⟨by lia, by lia, by lia⟩) (by lia) (by lia) (by lia)⟩
    · rw [putT_node]
      exact ⟨get_ne (i := 1024 + (x : Int)) (by lia) (by lia) (by lia) (by lia), get_ne (i := 1056 + (x : Int)) (by lia) (by lia) (by lia) (by lia), get_ne (i := 1088 + (x : Int)) (by lia) (by lia) (by lia) (by lia)⟩
/-- the machine runs n steps, none of them at the place e, and comes to m' -/
inductive Run (e : Int) : Nat → M → M → Prop
  | nil {m} : Run e 0 m m
  | cons {n m m₁ m'} : Stp m m₁ → m.pc ≠ e → Run e n m₁ m' → Run e (n + 1) m m'
theorem Run.app {e : Int} {n k : Nat} {a b c : M} (h : Run e n a b) (g : Run e k b c) : Run e (k + n) a c := by
  induction h with
  | nil => exact g
  | cons s q _ ih => exact .cons s q (ih g)
theorem Run.to {e : Int} {n : Nat} {m a b : M} (h : Run e n m a) (q : a = b) : Run e n m b := q ▸ h
theorem ns {o k : Int} (h : k < 87) : o + k ≠ o + 87 := by lia
/-- a leaf given away: its value, the place of the stack, the memory -/
structure It where
  v : Int
  s : Int
  p : List Int
/-- a return address laid down -/
noncomputable def wayP (p : List Int) (c a : Int) : List Int := (p.set c.toNat (a / 256)).set (c - 1).toNat (a % 256)
theorem wayP_len (p : List Int) (c a : Int) : (wayP p c a).length = p.length := by unfold wayP; rw [List.length_set, List.length_set]
/-- the walk: what is given away, and the memory behind it -/
noncomputable def wk (o : Int) : Tr → Int → List Int → List It × List Int
  | .leaf _ v, c, p => ([⟨v, c - 256, p⟩], p)
  | .node i l r, c, p =>
    ((wk o l (c - 3) (wayP (p.set c.toNat (i : Int)) (c - 1) (o + 61 + 2))).1 ++ (wk o r c (wk o l (c - 3) (wayP (p.set c.toNat (i : Int)) (c - 1) (o + 61 + 2))).2).1,
      (wk o r c (wk o l (c - 3) (wayP (p.set c.toNat (i : Int)) (c - 1) (o + 61 + 2))).2).2)
theorem wk_len (o : Int) : ∀ (t : Tr) (c : Int) (p : List Int), (wk o t c p).2.length = p.length
  | .leaf _ _, _, _ => rfl
  | .node i l r, c, p => by
    show (wk o r c _).2.length = _
    rw [wk_len o r, wk_len o l, wayP_len, List.length_set]
theorem wayP_keep {p : List Int} {c a i : Int} (hi : c < i) (hc : 1 ≤ c) (hl : c < p.length) : get (wayP p c a) i = get p i := by
  unfold wayP
  rw [get_ne (by lia) (by lia) (by rw [List.length_set]; lia) (by lia), get_ne (by lia) (by lia) hl (by lia)]
theorem wk_keep (o : Int) : ∀ (t : Tr) (c : Int) (p : List Int) (i : Int), c < i → 3 * t.lv.length ≤ c → c < p.length → get (wk o t c p).2 i = get p i
  | .leaf _ _, _, _, _, _, _, _ => rfl
  | .node j l r, c, p, i, h, hc, hl => by
    have h1 := l.lv_pos
    have h2 := r.lv_pos
    have h3 : (Tr.node j l r).lv.length = l.lv.length + r.lv.length := List.length_append
    show get (wk o r c _).2 i = _
    rw [wk_keep o r c _ i h (by lia) (by rw [wk_len, wayP_len, List.length_set]; exact hl), wk_keep o l (c - 3) _ i (by lia) (by lia) (by rw [wayP_len, List.length_set]; lia), wayP_keep (by lia) (by lia) (by rw [List.length_set]; lia), get_ne (by lia) (by lia) hl (by lia)]
theorem wk_vals (o : Int) : ∀ (t : Tr) (c : Int) (p : List Int), (wk o t c p).1.map It.v = t.lv
  | .leaf _ _, _, _ => rfl
  | .node i l r, c, p => by
    show List.map It.v (_ ++ _) = l.lv ++ r.lv
    rw [List.map_append, wk_vals o l, wk_vals o r]
/-- the tree lies in the memory F -/
noncomputable def HasF (F : Int → Int) : Tr → Prop
  | .leaf i v => (i ≤ 31 ∧ 0 ≤ v ∧ v < 256) ∧ F (1024 + (i : Int)) = v ∧ F (1056 + (i : Int)) = 0
  | .node i l r => (i ≤ 31 ∧ 1 ≤ l.id) ∧ F (1056 + (i : Int)) = l.id ∧ F (1088 + (i : Int)) = r.id ∧ HasF F l ∧ HasF F r
theorem HasF.id {F : Int → Int} : ∀ {t : Tr}, HasF F t → t.id ≤ 31
  | .leaf _ _, h => h.1.1
  | .node _ _ _, h => h.1.1
/-- what the walker finds beside its stack -/
structure Fk (o w R : Int) (T : Tr) (F : Int → Int) : Prop where
  ho : 512 ≤ o ∧ o ≤ 767
  hw : 0 ≤ w ∧ w ≤ 1
  code : ∀ k : Int, 0 ≤ k → k < 87 → F (o + k) = get (codeO o) k
  f3 : F 3 = 253
  hh : 0 ≤ F 511 ∧ F 511 < 256
  hk : F 510 + F 511 * 256 + 1 = R
  k0 : 0 ≤ R
  k1 : R < 65536
  root : F (w + 20) = T.id
  tree : HasF F T
structure St (w : Int) (F : Int → Int) (p m : List Int) : Prop where
  len : m.length = 1120
  plen : p.length = 1120
  inr : ∀ i : Int, 384 - 64 * w ≤ i → i ≤ 447 - 64 * w → get m i = get p i
  out : ∀ i : Int, 0 ≤ i → i < 384 - 64 * w ∨ 447 - 64 * w < i → i ≠ 2 → i ≠ w + 16 → get m i = F i
section
variable {o w R : Int} {T : Tr} {F : Int → Int} {p m : List Int} {a x s v : Int} {n z c : Bool}
theorem St.cd (S : St w F p m) (K : Fk o w R T F) : Cd o m := ⟨K.ho, S.len, fun k h0 h1 => (S.out _ (by have := K.ho; lia) (by have := K.ho; have := K.hw; lia) (by have := K.ho; lia) (by have := K.ho; have := K.hw; lia)).trans (K.code k h0 h1)⟩
theorem St.set (S : St w F p m) (hw : 0 ≤ w ∧ w ≤ 1) {k : Int} (h0 : 384 - 64 * w ≤ k) (h1 : k ≤ 447 - 64 * w) : St w F (p.set k.toNat v) (m.set k.toNat v) :=
  ⟨(List.length_set ..).trans S.len, (List.length_set ..).trans S.plen, fun i g0 g1 => by
    rw [get_set (by lia) (by lia) (by rw [S.len]; lia), get_set (by lia) (by lia) (by rw [S.plen]; lia), S.inr i g0 g1],
    fun i g0 g1 g2 g3 => by rw [get_ne g0 (by lia) (by rw [S.len]; lia) (by lia)]; exact S.out i g0 g1 g2 g3⟩
theorem St.set2 (S : St w F p m) (hw : 0 ≤ w ∧ w ≤ 1) {k : Int} (h : k = 2 ∨ k = w + 16) : St w F p (m.set k.toNat v) :=
  ⟨(List.length_set ..).trans S.len, S.plen, fun i g0 g1 => by
    rw [get_ne (by lia) (by lia) (by rw [S.len]; lia) (by lia)]; exact S.inr i g0 g1,
    fun i g0 g1 g2 g3 => by rw [get_ne g0 (by lia) (by rw [S.len]; lia) (by lia)]; exact S.out i g0 g1 g2 g3⟩
theorem St.hi (S : St w F p m) (K : Fk o w R T F) {i : Int} (h : 448 ≤ i) : get m i = F i := S.out i (by lia) (by have := K.hw; lia) (by lia) (by have := K.hw; lia)
/-- from give on -/
theorem run_give (S : St w F p m) (K : Fk o w R T F) (hv : 0 ≤ v ∧ v < 256) (hs : 0 ≤ s ∧ s < 256) : ∃ n' z' c' m', Run (o + 87) 7 ⟨v, x, w, s, Pf n z c, o + 76, m⟩ ⟨v, 253, w, 255, Pf n' z' c', R, m'⟩ ∧ St w F p m' ∧ get m' 2 = v ∧ get m' (w + 16) = s := by
  have hw := K.hw
  have S1 : St w F p (m.set (2 : Int).toNat v) := S.set2 hw (.inl rfl)
  have S2 : St w F p ((m.set (2 : Int).toNat v).set (w + 16).toNat s) := S1.set2 hw (.inr rfl)
  have e2 : get ((m.set (2 : Int).toNat v).set (w + 16).toNat s) 2 = v := by rw [get_ne (by decide) (by lia) (by rw [S1.len]; lia) (by lia), get_eq (by decide) (by rw [S.len]; decide)]
  refine ⟨_, _, _, _, .to (.cons (i76 (S.cd K)) (ns (by decide)) (.cons (i78 (S1.cd K) hs.1 hs.2) (ns (by decide)) (.cons (i79 (S1.cd K) hw) (ns (by decide)) (.cons (i81 (S2.cd K) ((S2.out 3 (by decide) (by lia) (by decide) (by lia)).trans K.f3) (by decide) (by decide)) (ns (by decide)) (.cons (i83 (S2.cd K)) (ns (by decide)) (.cons (i84 (S2.cd K) e2 hv.1 hv.2) (ns (by decide)) (.cons (i86 (S2.cd K) (by decide) (by decide) (S2.hi K (by decide)) (S2.hi K (by decide)) K.hh K.hk K.k0 K.k1) (ns (by decide)) .nil))))))) rfl, S2, e2, get_eq (by lia) (by rw [S1.len]; lia)⟩
/-- a leaf -/
theorem run_leaf (S : St w F p m) (K : Fk o w R T F) {i : Nat} (H : HasF F (.leaf i v)) (hs : 0 ≤ s ∧ s < 256) : ∃ n' z' c' m', Run (o + 87) 10 ⟨a, i, w, s, Pf n z c, o + 50, m⟩ ⟨v, 253, w, 255, Pf n' z' c', R, m'⟩ ∧ St w F p m' ∧ get m' 2 = v ∧ get m' (w + 16) = s := by
  obtain ⟨⟨h1, h2⟩, h3, h4⟩ := H
  have hx : 0 ≤ (i : Int) ∧ (i : Int) < 32 := by lia
  have e1 : get m (1056 + (i : Int)) = 0 := (S.hi K (by lia)).trans h4
  have e2 : get m (1024 + (i : Int)) = v := (S.hi K (by lia)).trans h3
  obtain ⟨n', z', c', m', g1, g2⟩ := run_give (x := (i : Int)) (n := decide (128 ≤ v)) (z := v == 0) (c := c) S K h2 hs
  exact ⟨n', z', c', m', .cons (i50 (S.cd K) hx e1 (by decide) (by decide)) (ns (by decide)) (.cons (t53 (S.cd K) rfl) (ns (by decide)) (.cons (i73 (S.cd K) hx e2 h2.1 h2.2) (ns (by decide)) g1)), g2⟩
/-- into the left hand -/
theorem run_left (S : St w F p m) (K : Fk o w R T F) {i : Nat} {l r : Tr} (H : HasF F (.node i l r)) (h0 : 130 - 64 * w ≤ s) (h1 : s ≤ 191 - 64 * w) : ∃ a' n' z' c' m', Run (o + 87) 7 ⟨a, i, w, s, Pf n z c, o + 50, m⟩ ⟨a', l.id, w, s - 3, Pf n' z' c', o + 50, m'⟩ ∧ St w F (wayP (p.set (s + 256).toNat (i : Int)) (s - 1 + 256) (o + 61 + 2)) m' := by
  obtain ⟨⟨h2, h3⟩, h4, h5, h6, h7⟩ := H
  have hw := K.hw
  have hi := h6.id
  have hx : 0 ≤ (i : Int) ∧ (i : Int) < 32 := by lia
  have e1 : get m (1056 + (i : Int)) = l.id := (S.hi K (by lia)).trans h4
  have S1 : St w F (p.set (s + 256).toNat (i : Int)) (m.set (s + 256).toNat (i : Int)) := S.set hw (by lia) (by lia)
  have e2 : get (m.set (s + 256).toNat (i : Int)) (1056 + (i : Int)) = l.id := (S1.hi K (by lia)).trans h4
  have S2 := ((S1.set hw (k := s - 1 + 256) (v := (o + 61 + 2) / 256) (by lia) (by lia)).set hw (k := s - 1 - 1 + 256) (v := (o + 61 + 2) % 256) (by lia) (by lia))
  have nz : ((l.id : Int) == 0) = false := by rw [beq_eq_false_iff_ne]; lia
  refine ⟨_, _, _, _, _, .to (.cons (i50 (S.cd K) hx e1 (by lia) (by lia)) (ns (by decide)) (.cons (n53 (S.cd K) nz) (ns (by decide)) (.cons (i55 (S.cd K) hx.1 (by lia)) (ns (by decide)) (.cons (i56 (S.cd K) hx.1 (by lia) (by lia) (by lia)) (ns (by decide)) (.cons (i57 (S1.cd K) hx e2 (by lia) (by lia)) (ns (by decide)) (.cons (i60 (S1.cd K) (by lia) (by lia)) (ns (by decide)) (.cons (i61 (S1.cd K) (by lia) (by lia)) (ns (by decide)) .nil))))))) (mk_eq rfl rfl rfl (by lia) rfl rfl rfl), ?_⟩
  have e : (s - 1 - 1 + 256).toNat = (s - 1 + 256 - 1).toNat := by lia
  rw [e] at S2
  rw [e]
  exact S2
/-- on to the right hand -/
theorem run_right (S : St w F p m) (K : Fk o w R T F) {i : Nat} {l r : Tr} (H : HasF F (.node i l r)) (h0 : 130 - 64 * w ≤ s) (h1 : s ≤ 191 - 64 * w) (hp : get p (s + 256) = i) : ∃ a' n' z' c', Run (o + 87) 5 ⟨a, x, w, s - 1, Pf n z c, o + 64, m⟩ ⟨a', r.id, w, s, Pf n' z' c', o + 50, m⟩ := by
  obtain ⟨⟨h2, h3⟩, h4, h5, h6, h7⟩ := H
  have hw := K.hw
  have hi := h7.id
  have hx : 0 ≤ (i : Int) ∧ (i : Int) < 32 := by lia
  have e0 : get m (s - 1 + 1 + 256) = i := by rw [show s - 1 + 1 + 256 = s + 256 by lia, S.inr _ (by lia) (by lia)]; exact hp
  have e1 : get m (1088 + (i : Int)) = r.id := (S.hi K (by lia)).trans h5
  exact ⟨_, _, _, _, .to (.cons (i64 (S.cd K) e0 hx.1 (by lia) (by lia) (by lia)) (ns (by decide)) (.cons (i65 (S.cd K) hx.1 (by lia)) (ns (by decide)) (.cons (i66 (S.cd K) hx e1 (by lia) (by lia)) (ns (by decide)) (.cons (i69 (S.cd K) (by lia) (by lia)) (ns (by decide)) (.cons (i70 (S.cd K)) (ns (by decide)) .nil))))) (mk_eq rfl rfl rfl (by lia) rfl rfl rfl)⟩
/-- from begin to the root -/
theorem run_begin (S : St w F p m) (K : Fk o w R T F) : ∃ a' n' z' c' m', Run (o + 87) 2 ⟨a, x, w, 191 - 64 * w, Pf n z c, o + 37, m⟩ ⟨a', T.id, w, 189 - 64 * w, Pf n' z' c', o + 50, m'⟩ ∧ St w F (wayP p (447 - 64 * w) (o + 39 + 2)) m' := by
  have hw := K.hw
  have hi := K.tree.id
  have e1 : get m (w + 20) = T.id := (S.out _ (by lia) (by lia) (by lia) (by lia)).trans K.root
  have S2 := ((S.set hw (k := 191 - 64 * w + 256) (v := (o + 39 + 2) / 256) (by lia) (by lia)).set hw (k := 191 - 64 * w - 1 + 256) (v := (o + 39 + 2) % 256) (by lia) (by lia))
  refine ⟨_, _, _, _, _, .to (.cons (i37 (S.cd K) hw e1 (by lia) (by lia)) (ns (by decide)) (.cons (i39 (S.cd K) (by lia) (by lia)) (ns (by decide)) .nil)) (mk_eq rfl rfl rfl (by lia) rfl rfl rfl), ?_⟩
  unfold wayP
  have e : (447 - 64 * w).toNat = (191 - 64 * w + 256).toNat := by lia
  have e' : (447 - 64 * w - 1).toNat = (191 - 64 * w - 1 + 256).toNat := by lia
  rw [e, e']
  exact S2
/-- the walk is over -/
theorem run_over (S : St w F p m) (K : Fk o w R T F) : ∃ n' z' c' m', Run (o + 87) 9 ⟨a, x, w, 191 - 64 * w, Pf n z c, o + 42, m⟩ ⟨0, 253, w, 255, Pf n' z' c', R, m'⟩ ∧ St w F (wayP p (447 - 64 * w) (o + 44 + 2)) m' ∧ get m' 2 = 0 ∧ get m' (w + 16) = 189 - 64 * w := by
  have hw := K.hw
  have S2 := ((S.set hw (k := 191 - 64 * w + 256) (v := (o + 44 + 2) / 256) (by lia) (by lia)).set hw (k := 191 - 64 * w - 1 + 256) (v := (o + 44 + 2) % 256) (by lia) (by lia))
  have e : (447 - 64 * w).toNat = (191 - 64 * w + 256).toNat := by lia
  have e' : (447 - 64 * w - 1).toNat = (191 - 64 * w - 1 + 256).toNat := by lia
  have e3 : 191 - 64 * w - 2 = 189 - 64 * w := by lia
  obtain ⟨n', z', c', m', g1, g2⟩ := run_give (x := x) (n := false) (z := true) (c := c) (v := 0) (s := 191 - 64 * w - 2) S2 K (by decide) (by lia)
  refine ⟨n', z', c', m', .cons (i42 (S.cd K)) (ns (by decide)) (.cons (i44 (S.cd K) (by lia) (by lia)) (ns (by decide)) g1), ?_⟩
  unfold wayP
  rw [e, e', ← e3]
  exact g2
end
section
variable {o w R : Int} {T : Tr} {F : Int → Int}
/-- from here to the next leaf given away -/
noncomputable def Go (o w : Int) (T : Tr) (pc x s : Int) (p : List Int) (it : It) (k : Nat) : Prop := ∀ (F : Int → Int) (R a : Int) (n z c : Bool) (m : List Int), Fk o w R T F → St w F p m →
  ∃ n' z' c' m', Run (o + 87) k ⟨a, x, w, s, Pf n z c, pc, m⟩ ⟨it.v, 253, w, 255, Pf n' z' c', R, m'⟩ ∧ St w F it.p m' ∧ get m' 2 = it.v ∧ get m' (w + 16) = it.s
/-- from here to there, nothing given away -/
noncomputable def Into (o w : Int) (T : Tr) (pc x s : Int) (p : List Int) (pc' x' s' : Int) (p' : List Int) (k : Nat) : Prop := ∀ (F : Int → Int) (R a : Int) (n z c : Bool) (m : List Int), Fk o w R T F → St w F p m →
  ∃ a' n' z' c' m', Run (o + 87) k ⟨a, x, w, s, Pf n z c, pc, m⟩ ⟨a', x', w, s', Pf n' z' c', pc', m'⟩ ∧ St w F p' m'
/-- the return address r lies behind the place s -/
structure RetA (w : Int) (p : List Int) (s r : Int) : Prop where
  h0 : 384 - 64 * w ≤ s + 257
  h1 : s + 258 ≤ 447 - 64 * w
  hh : 0 ≤ get p (s + 258) ∧ get p (s + 258) < 256
  hk : get p (s + 257) + get p (s + 258) * 256 + 1 = r
  k0 : 0 ≤ r
  k1 : r < 65536
inductive Ch (o w : Int) (T : Tr) : Int → Int → Int → List Int → List It → Nat → Int → Int → List Int → Prop
  | one {pc x s p it k r} : Go o w T pc x s p it k → (0 ≤ it.v ∧ it.v < 256) → RetA w it.p it.s r → Ch o w T pc x s p [it] k r (it.s + 2) it.p
  | more {pc x s p it k r its k' r' s' p'} : Go o w T pc x s p it k → (0 ≤ it.v ∧ it.v < 256) → RetA w it.p it.s r → (∀ x', Ch o w T r x' (it.s + 2) it.p its k' r' s' p') → Ch o w T pc x s p (it :: its) (k' + k) r' s' p'
theorem Go.pre {pc x s pc' x' s' : Int} {p p' : List Int} {it : It} {j k : Nat} (h : Into o w T pc x s p pc' x' s' p' j) (g : Go o w T pc' x' s' p' it k) : Go o w T pc x s p it (k + j) := by
  intro F R a n z c m K S
  obtain ⟨a', n', z', c', m', h1, h2⟩ := h F R a n z c m K S
  obtain ⟨n₂, z₂, c₂, m₂, g1, g2⟩ := g F R a' n' z' c' m' K h2
  exact ⟨n₂, z₂, c₂, m₂, h1.app g1, g2⟩
theorem Ch.pre {pc x s pc' x' s' r sr : Int} {p p' pr : List Int} {its : List It} {j k : Nat} (h : Into o w T pc x s p pc' x' s' p' j) (g : Ch o w T pc' x' s' p' its k r sr pr) : Ch o w T pc x s p its (k + j) r sr pr := by
  cases g with
  | one g hv q => exact .one (g.pre h) hv q
  | more g hv q t => rw [Nat.add_assoc]; exact .more (g.pre h) hv q t
theorem Ch.app {pc x s r sr r' sr' : Int} {p pr pr' : List Int} {its its' : List It} {k k' : Nat} (h : Ch o w T pc x s p its k r sr pr) (g : ∀ x', Ch o w T r x' sr pr its' k' r' sr' pr') : Ch o w T pc x s p (its ++ its') (k' + k) r' sr' pr' := by
  induction h with
  | one h hv q => exact .more h hv q g
  | more h hv q _ ih => rw [← Nat.add_assoc]; exact .more h hv q fun x' => ih x' g
theorem ret_at {p : List Int} {s a : Int} (hp : p.length = 1120) (h0 : 384 - 64 * w ≤ s + 257) (h1 : s + 258 ≤ 447 - 64 * w) (hw : 0 ≤ w ∧ w ≤ 1) (ha : 0 ≤ a ∧ a < 2000) : RetA w (wayP p (s + 258) a) s (a + 1) := by
  have e1 : get (wayP p (s + 258) a) (s + 258) = a / 256 := by
    unfold wayP
    rw [get_ne (by lia) (by lia) (by rw [List.length_set]; lia) (by lia), get_eq (by lia) (by lia)]
  have e2 : get (wayP p (s + 258) a) (s + 257) = a % 256 := by
    unfold wayP
    rw [show s + 257 = s + 258 - 1 by lia, get_eq (by lia) (by rw [List.length_set]; lia)]
  exact ⟨h0, h1, by rw [e1]; lia, by rw [e1, e2]; lia, by lia, by lia⟩
theorem RetA.keep {p p' : List Int} {s r : Int} (h : RetA w p s r) (e1 : get p' (s + 257) = get p (s + 257)) (e2 : get p' (s + 258) = get p (s + 258)) : RetA w p' s r :=
  ⟨h.h0, h.h1, by rw [e2]; exact h.hh, by rw [e1, e2]; exact h.hk, h.k0, h.k1⟩
/-- all leaves of a tree -/
theorem walk_ch (hw : 0 ≤ w ∧ w ≤ 1) (ho : 512 ≤ o ∧ o ≤ 767) (hv : ∀ v ∈ T.lv, 0 ≤ v ∧ v < 256) : ∀ (t : Tr) (c : Int) (p : List Int) (r : Int), (∀ F, HasF F T → HasF F t) → (∀ v ∈ t.lv, v ∈ T.lv) → p.length = 1120 → RetA w p (c - 256) r → 384 - 64 * w + 3 * t.lv.length ≤ c + 1 →
    ∃ k, k + 12 = 22 * t.lv.length ∧ Ch o w T (o + 50) t.id (c - 256) p (wk o t c p).1 k r (c - 256 + 2) (wk o t c p).2
  | .leaf i v, c, p, r, hs, hm, hp, hr, hb => by
    have h0 := hr.h0
    have h1 := hr.h1
    refine ⟨10, rfl, .one (it := ⟨v, c - 256, p⟩) (fun F R a n z c' m K S => ?_) (hv v (hm v (.head _))) hr⟩
    exact run_leaf S K (hs F K.tree) (by lia)
  | .node i l r₀, c, p, r, hs, hm, hp, hr, hb => by
    have h0 := hr.h0
    have h1 := hr.h1
    have pl := l.lv_pos
    have pr := r₀.lv_pos
    have h3 : (Tr.node i l r₀).lv.length = l.lv.length + r₀.lv.length := List.length_append
    rw [h3] at hb ⊢
    have l1 : (p.set c.toNat (i : Int)).length = 1120 := (List.length_set ..).trans hp
    have l2 : (wayP (p.set c.toNat (i : Int)) (c - 1) (o + 61 + 2)).length = 1120 := (wayP_len ..).trans l1
    have r1 : RetA w (wayP (p.set c.toNat (i : Int)) (c - 1) (o + 61 + 2)) (c - 3 - 256) (o + 61 + 2 + 1) := by
      have := ret_at (w := w) (s := c - 3 - 256) (a := o + 61 + 2) l1 (by lia) (by lia) hw (by lia)
      rw [show c - 3 - 256 + 258 = c - 1 by lia] at this
      exact this
    obtain ⟨k1, e1, c1⟩ := walk_ch hw ho hv l (c - 3) _ _ (fun F H => (hs F H).2.2.2.1) (fun v h => hm v (List.mem_append_left _ h)) l2 r1 (by lia)
    have l3 : (wk o l (c - 3) (wayP (p.set c.toNat (i : Int)) (c - 1) (o + 61 + 2))).2.length = 1120 := (wk_len ..).trans l2
    have kp : ∀ j : Int, c < j → get (wk o l (c - 3) (wayP (p.set c.toNat (i : Int)) (c - 1) (o + 61 + 2))).2 j = get p j := fun j hj => by
      rw [wk_keep o l _ _ _ (by lia) (by lia) (by lia), wayP_keep (by lia) (by lia) (by lia), get_ne (by lia) (by lia) (by lia) (by lia)]
    have kc : get (wk o l (c - 3) (wayP (p.set c.toNat (i : Int)) (c - 1) (o + 61 + 2))).2 c = i := by
      rw [wk_keep o l _ _ _ (by lia) (by lia) (by lia), wayP_keep (by lia) (by lia) (by lia), get_eq (by lia) (by lia)]
    obtain ⟨k2, e2, c2⟩ := walk_ch hw ho hv r₀ c (wk o l (c - 3) (wayP (p.set c.toNat (i : Int)) (c - 1) (o + 61 + 2))).2 r (fun F H => (hs F H).2.2.2.2) (fun v h => hm v (List.mem_append_right _ h)) l3 (hr.keep (kp _ (by lia)) (kp _ (by lia))) (by lia)
    have i1 : Into o w T (o + 50) i (c - 256) p (o + 50) l.id (c - 3 - 256) (wayP (p.set c.toNat (i : Int)) (c - 1) (o + 61 + 2)) 7 := by
      intro F R a n z c' m K S
      have := run_left (a := a) (s := c - 256) (n := n) (z := z) (c := c') S K (hs F K.tree) (by lia) (by lia)
      rw [show c - 256 + 256 = c by lia, show c - 256 - 1 + 256 = c - 1 by lia, show c - 256 - 3 = c - 3 - 256 by lia] at this
      exact this
    have i2 : ∀ x, Into o w T (o + 61 + 2 + 1) x (c - 3 - 256 + 2) (wk o l (c - 3) (wayP (p.set c.toNat (i : Int)) (c - 1) (o + 61 + 2))).2 (o + 50) r₀.id (c - 256) (wk o l (c - 3) (wayP (p.set c.toNat (i : Int)) (c - 1) (o + 61 + 2))).2 5 := by
      intro x F R a n z c' m K S
      have := run_right (a := a) (x := x) (s := c - 256) (n := n) (z := z) (c := c') S K (hs F K.tree) (by lia) (by lia) (by rw [show c - 256 + 256 = c by lia]; exact kc)
      rw [show o + 64 = o + 61 + 2 + 1 by lia, show c - 256 - 1 = c - 3 - 256 + 2 by lia] at this
      obtain ⟨a', n', z', c₂, g⟩ := this
      exact ⟨a', n', z', c₂, m, g, S⟩
    exact ⟨k2 + 5 + (k1 + 7), by lia, (c1.pre i1).app fun x => c2.pre (i2 x)⟩
/-- what is kept in the law: the leaves, and the 0 behind them -/
noncomputable def items (o w : Int) (T : Tr) (p : List Int) : List It := (wk o T (445 - 64 * w) (wayP p (447 - 64 * w) (o + 39 + 2))).1 ++ [⟨0, 189 - 64 * w, wayP (wk o T (445 - 64 * w) (wayP p (447 - 64 * w) (o + 39 + 2))).2 (447 - 64 * w) (o + 44 + 2)⟩]
theorem items_vals (o w : Int) (T : Tr) (p : List Int) : (items o w T p).map It.v = T.lv ++ [0] := by
  unfold items
  rw [List.map_append, wk_vals]
  rfl
theorem start_ch (hw : 0 ≤ w ∧ w ≤ 1) (ho : 512 ≤ o ∧ o ≤ 767) (hv : ∀ v ∈ T.lv, 0 ≤ v ∧ v < 256) (hl : T.lv.length ≤ 6) {p : List Int} (hp : p.length = 1120) : ∃ k r s' p', k + 1 = 22 * T.lv.length ∧ ∀ x, Ch o w T (o + 37) x (191 - 64 * w) p (items o w T p) k r s' p' := by
  have l1 : (wayP p (447 - 64 * w) (o + 39 + 2)).length = 1120 := (wayP_len ..).trans hp
  have r1 : RetA w (wayP p (447 - 64 * w) (o + 39 + 2)) (445 - 64 * w - 256) (o + 39 + 2 + 1) := by
    have := ret_at (w := w) (s := 189 - 64 * w) (a := o + 39 + 2) hp (by lia) (by lia) hw (by lia)
    rw [show 189 - 64 * w + 258 = 447 - 64 * w by lia] at this
    rw [show 445 - 64 * w - 256 = 189 - 64 * w by lia]
    exact this
  obtain ⟨k, e, c⟩ := walk_ch hw ho hv T (445 - 64 * w) _ _ (fun _ h => h) (fun _ h => h) l1 r1 (by lia)
  have l2 : (wk o T (445 - 64 * w) (wayP p (447 - 64 * w) (o + 39 + 2))).2.length = 1120 := (wk_len ..).trans l1
  have r2 : RetA w (wayP (wk o T (445 - 64 * w) (wayP p (447 - 64 * w) (o + 39 + 2))).2 (447 - 64 * w) (o + 44 + 2)) (189 - 64 * w) (o + 44 + 2 + 1) := by
    have := ret_at (w := w) (s := 189 - 64 * w) (a := o + 44 + 2) l2 (by lia) (by lia) hw (by lia)
    rw [show 189 - 64 * w + 258 = 447 - 64 * w by lia] at this
    exact this
  have g : ∀ x, Ch o w T (o + 39 + 2 + 1) x (445 - 64 * w - 256 + 2) (wk o T (445 - 64 * w) (wayP p (447 - 64 * w) (o + 39 + 2))).2 [⟨0, 189 - 64 * w, wayP (wk o T (445 - 64 * w) (wayP p (447 - 64 * w) (o + 39 + 2))).2 (447 - 64 * w) (o + 44 + 2)⟩] 9 (o + 44 + 2 + 1) (189 - 64 * w + 2) (wayP (wk o T (445 - 64 * w) (wayP p (447 - 64 * w) (o + 39 + 2))).2 (447 - 64 * w) (o + 44 + 2)) := fun x =>
    .one (it := ⟨0, 189 - 64 * w, _⟩) (fun F R a n z c m K S => by
      have := run_over (a := a) (x := x) (n := n) (z := z) (c := c) S K
      rw [show o + 42 = o + 39 + 2 + 1 by lia, show 191 - 64 * w = 445 - 64 * w - 256 + 2 by lia] at this
      exact this) ⟨Int.le_refl _, show (0 : Int) < 256 by decide⟩ r2
  refine ⟨9 + k + 2, _, _, _, by lia, fun x => Ch.pre (x' := (T.id : Int)) (fun F R a n z c m K S => ?_) (c.app g)⟩
  have := run_begin (a := a) (x := x) (n := n) (z := z) (c := c) S K
  rw [show 189 - 64 * w = 445 - 64 * w - 256 by lia] at this
  exact this
end
/-- what a turn leaves -/
structure TurnF (w r : Int) (it : It) (m m' : List Int) : Prop where
  len : m'.length = 1120
  plen : it.p.length = 1120
  inr : ∀ i : Int, 384 - 64 * w ≤ i → i ≤ 447 - 64 * w → get m' i = get it.p i
  c2 : get m' 2 = it.v
  cw : get m' (w + 16) = it.s
  c3 : get m' 3 = 253
  c510 : get m' 510 = r % 256
  c511 : get m' 511 = r / 256
  out : ∀ i : Int, 0 ≤ i → i < 384 - 64 * w ∨ 447 - 64 * w < i → i ≠ 2 → i ≠ 3 → i ≠ w + 16 → i ≠ 510 → i ≠ 511 → get m' i = get m i
/-- what a turn needs -/
structure TurnN (o w : Int) (T : Tr) (p : List Int) (s r : Int) (m : List Int) : Prop where
  cd : Cd o m
  hw : 0 ≤ w ∧ w ≤ 1
  plen : p.length = 1120
  inr : ∀ i : Int, 384 - 64 * w ≤ i → i ≤ 447 - 64 * w → get m i = get p i
  cs : get m (w + 16) = s
  ret : RetA w p s r
  root : get m (w + 20) = T.id
  tree : HasF (get m) T
section
variable {o w : Int} {T : Tr} {p m : List Int} {s r a x k : Int} {n z c : Bool} {it : It}
theorem HasF.keep {F G : Int → Int} (e : ∀ i : Int, 1024 ≤ i → G i = F i) : ∀ {t : Tr}, HasF F t → HasF G t
  | .leaf _ _, h => ⟨h.1, (e _ (by lia)).trans h.2.1, (e _ (by lia)).trans h.2.2⟩
  | .node _ _ _, h => ⟨h.1, (e _ (by lia)).trans h.2.1, (e _ (by lia)).trans h.2.2.1, h.2.2.2.1.keep e, h.2.2.2.2.keep e⟩
theorem TurnN.set (H : TurnN o w T p s r m) {i v : Int} (h0 : 0 ≤ i) (h1 : i < 512) (h2 : i < 384 - 64 * w ∨ 447 - 64 * w < i) (h3 : i ≠ w + 16) (h4 : i ≠ w + 20) : TurnN o w T p s r (m.set i.toNat v) := by
  have hl := H.cd.len
  have ho := H.cd.ho
  have hw := H.hw
  exact ⟨⟨ho, (List.length_set ..).trans hl, fun k g0 g1 => by rw [get_ne (by lia) h0 (by lia) (by lia)]; exact H.cd.code k g0 g1⟩, hw, H.plen, fun j g0 g1 => by rw [get_ne (by lia) h0 (by lia) (by lia)]; exact H.inr j g0 g1,
    by rw [get_ne (by lia) h0 (by lia) (by lia)]; exact H.cs, H.ret, by rw [get_ne (by lia) h0 (by lia) (by lia)]; exact H.root, H.tree.keep fun j g => get_ne (by lia) h0 (by lia) (by lia)⟩
/-- from resume to the leaf -/
theorem run_turn {q : Nat} (H : TurnN o w T p s r m) (g : Go o w T r s (s + 2) p it q) (hlo : get m 510 = k % 256) (hhi : get m 511 = k / 256) (hk : 0 ≤ k ∧ k < 2000) : ∃ n' z' c' m', Run (o + 87) (q + 5) ⟨a, x, w, 253, Pf n z c, o + 30, m⟩ ⟨it.v, 253, w, 255, Pf n' z' c', k + 1, m'⟩ ∧ TurnF w k it m m' := by
  have hw := H.hw
  have hl := H.cd.len
  have h0 := H.ret.h0
  have h1 := H.ret.h1
  have H2 : TurnN o w T p s r (m.set (3 : Int).toNat 253) := H.set (by decide) (by decide) (by lia) (by lia) (by lia)
  have K : Fk o w (k + 1) T (get (m.set (3 : Int).toNat 253)) := by
    have e1 : get (m.set (3 : Int).toNat 253) 510 = k % 256 := by rw [get_ne (by decide) (by decide) (by lia) (by decide)]; exact hlo
    have e2 : get (m.set (3 : Int).toNat 253) 511 = k / 256 := by rw [get_ne (by decide) (by decide) (by lia) (by decide)]; exact hhi
    exact ⟨H.cd.ho, hw, H2.cd.code, get_eq (by decide) (by lia), by rw [e2]; lia, by rw [e1, e2]; lia, by lia, by lia, H2.root, H2.tree⟩
  have S : St w (get (m.set (3 : Int).toNat 253)) p (m.set (3 : Int).toNat 253) := ⟨H2.cd.len, H.plen, H2.inr, fun _ _ _ _ _ => rfl⟩
  have el : get (m.set (3 : Int).toNat 253) (s + 257) = get p (s + 257) := H2.inr _ (by lia) (by lia)
  have eh : get (m.set (3 : Int).toNat 253) (s + 258) = get p (s + 258) := H2.inr _ (by lia) (by lia)
  obtain ⟨n', z', c', m', g1, g2, g3, g4⟩ := g _ _ a (decide (128 ≤ s)) (s == 0) c _ K S
  refine ⟨n', z', c', m', .cons (i30 H.cd (by decide) (by decide)) (ns (by decide)) (.cons (i31 H.cd) (ns (by decide)) (.cons (i33 H2.cd hw H2.cs (by lia) (by lia)) (ns (by decide)) (.cons (i35 H2.cd) (ns (by decide)) (.cons (i36 H2.cd (by lia) (by lia) el eh H.ret.hh H.ret.hk H.ret.k0 H.ret.k1) (ns (by decide)) g1)))), ?_⟩
  have out3 : ∀ i : Int, 0 ≤ i → i ≠ 3 → get (m.set (3 : Int).toNat 253) i = get m i := fun i hi h => get_ne hi (by decide) (by lia) h
  exact ⟨g2.len, g2.plen, g2.inr, g3, g4, (g2.out 3 (by decide) (by lia) (by decide) (by lia)).trans K.f3, by rw [g2.out 510 (by decide) (by lia) (by decide) (by lia), out3 510 (by decide) (by decide)]; exact hlo, by rw [g2.out 511 (by decide) (by lia) (by decide) (by lia), out3 511 (by decide) (by decide)]; exact hhi,
    fun i q0 q1 q2 q3 q4 q5 q6 => by rw [g2.out i q0 q1 q2 q4, out3 i q0 q3]⟩
theorem TurnF.pre {m₀ : List Int} (h : TurnF w k it m m₀) {m' : List Int} (e : ∀ i : Int, 0 ≤ i → i ≠ 510 → i ≠ 511 → get m i = get m' i) : TurnF w k it m' m₀ :=
  ⟨h.len, h.plen, h.inr, h.c2, h.cw, h.c3, h.c510, h.c511, fun i q0 q1 q2 q3 q4 q5 q6 => (h.out i q0 q1 q2 q3 q4 q5 q6).trans (e i q0 q5 q6)⟩
theorem jsr_mem (H : TurnN o w T p s r m) (k : Int) : TurnN o w T p s r ((m.set (255 + 256 : Int).toNat (k / 256)).set (255 - 1 + 256 : Int).toNat (k % 256)) ∧ get ((m.set (255 + 256 : Int).toNat (k / 256)).set (255 - 1 + 256 : Int).toNat (k % 256)) 510 = k % 256 ∧ get ((m.set (255 + 256 : Int).toNat (k / 256)).set (255 - 1 + 256 : Int).toNat (k % 256)) 511 = k / 256 ∧
    ∀ i : Int, 0 ≤ i → i ≠ 510 → i ≠ 511 → get ((m.set (255 + 256 : Int).toNat (k / 256)).set (255 - 1 + 256 : Int).toNat (k % 256)) i = get m i := by
  have hl := H.cd.len
  have hw := H.hw
  refine ⟨(H.set (by decide) (by decide) (by lia) (by lia) (by lia)).set (by decide) (by decide) (by lia) (by lia) (by lia), get_eq (j := 510) (by decide) (by rw [List.length_set]; lia), ?_, fun i h0 h1 h2 => ?_⟩
  · rw [get_ne (by decide) (by decide) (by rw [List.length_set]; lia) (by decide)]
    exact get_eq (j := 511) (by decide) (by lia)
  · rw [get_ne (j := 255 - 1 + 256) h0 (by decide) (by rw [List.length_set]; lia) (by lia), get_ne (j := 255 + 256) h0 (by decide) (by lia) (by lia)]
theorem run_turn0 {q : Nat} (H : TurnN o 0 T p s r m) (g : Go o 0 T r s (s + 2) p it q) : ∃ n' z' c' m', Run (o + 87) (q + 6) ⟨a, x, 0, 255, Pf n z c, o + 2, m⟩ ⟨it.v, 253, 0, 255, Pf n' z' c', o + 5, m'⟩ ∧ TurnF 0 (o + 2 + 2) it m m' := by
  have ho := H.cd.ho
  obtain ⟨H1, e1, e2, e3⟩ := jsr_mem H (o + 2 + 2)
  obtain ⟨n', z', c', m', g1, g2⟩ := run_turn (a := a) (x := x) (n := n) (z := z) (c := c) H1 g e1 e2 (by lia)
  exact ⟨n', z', c', m', .to (.cons (i2 H.cd (by decide) (by decide)) (ns (by decide)) g1) (mk_eq rfl rfl rfl rfl rfl (by lia) rfl), g2.pre e3⟩
theorem run_turn1 {q : Nat} (H : TurnN o 1 T p s r m) (g : Go o 1 T r s (s + 2) p it q) : ∃ n' z' c' m', Run (o + 87) (q + 6) ⟨a, x, 1, 255, Pf n z c, o + 9, m⟩ ⟨it.v, 253, 1, 255, Pf n' z' c', o + 12, m'⟩ ∧ TurnF 1 (o + 9 + 2) it m m' := by
  have ho := H.cd.ho
  obtain ⟨H1, e1, e2, e3⟩ := jsr_mem H (o + 9 + 2)
  obtain ⟨n', z', c', m', g1, g2⟩ := run_turn (a := a) (x := x) (n := n) (z := z) (c := c) H1 g e1 e2 (by lia)
  exact ⟨n', z', c', m', .to (.cons (i9 H.cd (by decide) (by decide)) (ns (by decide)) g1) (mk_eq rfl rfl rfl rfl rfl (by lia) rfl), g2.pre e3⟩
end
/-- the memory that is given -/
structure Nm (o : Int) (N : List Int) (T0 T1 : Tr) : Prop where
  cd : Cd o N
  t0 : HasF (get N) T0
  t1 : HasF (get N) T1
  c20 : get N 20 = T0.id
  c21 : get N 21 = T1.id
/-- the cells that the third stack's program uses -/
noncomputable def Sc (i : Int) : Prop := i = 2 ∨ i = 3 ∨ i = 5 ∨ i = 7 ∨ i = 8 ∨ i = 16 ∨ i = 17 ∨ i = 510 ∨ i = 511
structure Ms (N p0 p1 : List Int) (s0 s1 k : Int) (m : List Int) : Prop where
  len : m.length = 1120
  l0 : p0.length = 1120
  l1 : p1.length = 1120
  r0 : ∀ i : Int, 384 ≤ i → i ≤ 447 → get m i = get p0 i
  r1 : ∀ i : Int, 320 ≤ i → i ≤ 383 → get m i = get p1 i
  c16 : get m 16 = s0
  c17 : get m 17 = s1
  c7 : get m 7 = k
  c8 : get m 8 = 0
  out : ∀ i : Int, 0 ≤ i → i < 320 ∨ 447 < i → ¬ Sc i → get m i = get N i
/-- the memory behind both turns -/
structure Mt (o : Int) (N : List Int) (it0 it1 : It) (k e : Int) (m : List Int) : Prop where
  len : m.length = 1120
  l0 : it0.p.length = 1120
  l1 : it1.p.length = 1120
  r0 : ∀ i : Int, 384 ≤ i → i ≤ 447 → get m i = get it0.p i
  r1 : ∀ i : Int, 320 ≤ i → i ≤ 383 → get m i = get it1.p i
  c16 : get m 16 = it0.s
  c17 : get m 17 = it1.s
  c2 : get m 2 = it1.v
  c3 : get m 3 = 253
  c5 : get m 5 = it0.v
  c7 : get m 7 = k
  c8 : get m 8 = e
  c510 : get m 510 = (o + 11) % 256
  c511 : get m 511 = (o + 11) / 256
  out : ∀ i : Int, 0 ≤ i → i < 320 ∨ 447 < i → ¬ Sc i → get m i = get N i
section
variable {o : Int} {N p0 p1 m : List Int} {T0 T1 : Tr} {s0 s1 r0 r1 k a x y : Int} {n z c : Bool} {it0 it1 : It}
theorem nsc {i : Int} (h : 512 ≤ i) : ¬ Sc i := by unfold Sc; lia
theorem Ms.cd (H : Nm o N T0 T1) (M : Ms N p0 p1 s0 s1 k m) : Cd o m := ⟨H.cd.ho, M.len, fun j h0 h1 => (M.out _ (by have := H.cd.ho; lia) (by have := H.cd.ho; lia) (nsc (by have := H.cd.ho; lia))).trans (H.cd.code j h0 h1)⟩
theorem Ms.n0 (H : Nm o N T0 T1) (M : Ms N p0 p1 s0 s1 k m) (h : RetA 0 p0 s0 r0) : TurnN o 0 T0 p0 s0 r0 m :=
  ⟨M.cd H, by decide, M.l0, M.r0, M.c16, h, (M.out 20 (by decide) (by decide) (by unfold Sc; decide)).trans H.c20, H.t0.keep fun i hi => M.out i (by lia) (by lia) (nsc (by lia))⟩
theorem n1_of (H : Nm o N T0 T1) (M : Ms N p0 p1 s0 s1 k m) {m' : List Int} {v : Int} (F : TurnF 0 (o + 2 + 2) it0 m m') (h : RetA 1 p1 s1 r1) : TurnN o 1 T1 p1 s1 r1 (m'.set (5 : Int).toNat v) := by
  have hl := F.len
  have e : ∀ i : Int, 0 ≤ i → i < 384 ∨ 447 < i → i ≠ 2 → i ≠ 3 → i ≠ 5 → i ≠ 16 → i ≠ 510 → i ≠ 511 → get (m'.set (5 : Int).toNat v) i = get m i := fun i h0 h1 h2 h3 h4 h5 h6 h7 => by
    rw [get_ne h0 (by decide) (by lia) h4]
    exact F.out i h0 (by lia) h2 h3 (by lia) h6 h7
  have ho := H.cd.ho
  exact ⟨⟨ho, (List.length_set ..).trans hl, fun j h0 h1 => by rw [e _ (by lia) (by lia) (by lia) (by lia) (by lia) (by lia) (by lia) (by lia)]; exact (M.cd H).code j h0 h1⟩, by decide, M.l1,
    fun i h0 h1 => by rw [e i (by lia) (by lia) (by lia) (by lia) (by lia) (by lia) (by lia) (by lia)]; exact M.r1 i (by lia) (by lia),
    by rw [show (1 : Int) + 16 = 17 from rfl, e 17 (by decide) (by decide) (by decide) (by decide) (by decide) (by decide) (by decide) (by decide)]; exact M.c17, h,
    by rw [show (1 : Int) + 20 = 21 from rfl, e 21 (by decide) (by decide) (by decide) (by decide) (by decide) (by decide) (by decide) (by decide), M.out 21 (by decide) (by decide) (by unfold Sc; decide)]; exact H.c21,
    H.t1.keep fun i hi => by rw [e i (by lia) (by lia) (by lia) (by lia) (by lia) (by lia) (by lia) (by lia)]; exact M.out i (by lia) (by lia) (nsc (by lia))⟩
theorem mt_of (M : Ms N p0 p1 s0 s1 k m) {m' m₂ : List Int} (F : TurnF 0 (o + 2 + 2) it0 m m') (G : TurnF 1 (o + 9 + 2) it1 (m'.set (5 : Int).toNat it0.v) m₂) : Mt o N it0 it1 k 0 m₂ := by
  have hl := F.len
  have e5 : ∀ i : Int, 0 ≤ i → i ≠ 5 → get (m'.set (5 : Int).toNat it0.v) i = get m' i := fun i h0 h => get_ne h0 (by decide) (by lia) h
  refine ⟨G.len, F.plen, G.plen, fun i h0 h1 => ?_, fun i h0 h1 => G.inr i (by lia) (by lia), ?_, G.cw, G.c2, G.c3, ?_, ?_, ?_, ?_, ?_, fun i h0 h1 h2 => ?_⟩
  · rw [G.out i (by lia) (by lia) (by lia) (by lia) (by lia) (by lia) (by lia), e5 i (by lia) (by lia)]
    exact F.inr i (by lia) (by lia)
  · rw [G.out 16 (by decide) (by decide) (by decide) (by decide) (by decide) (by decide) (by decide), e5 16 (by decide) (by decide)]
    exact F.cw
  · rw [G.out 5 (by decide) (by decide) (by decide) (by decide) (by decide) (by decide) (by decide)]
    exact get_eq (by decide) (by lia)
  · rw [G.out 7 (by decide) (by decide) (by decide) (by decide) (by decide) (by decide) (by decide), e5 7 (by decide) (by decide), F.out 7 (by decide) (by decide) (by decide) (by decide) (by decide) (by decide) (by decide)]
    exact M.c7
  · rw [G.out 8 (by decide) (by decide) (by decide) (by decide) (by decide) (by decide) (by decide), e5 8 (by decide) (by decide), F.out 8 (by decide) (by decide) (by decide) (by decide) (by decide) (by decide) (by decide)]
    exact M.c8
  · rw [G.c510, Int.add_assoc]; rfl
  · rw [G.c511, Int.add_assoc]; rfl
  · have h3 : i ≠ 2 ∧ i ≠ 3 ∧ i ≠ 5 ∧ i ≠ 16 ∧ i ≠ 17 ∧ i ≠ 510 ∧ i ≠ 511 := by unfold Sc at h2; lia
    rw [G.out i h0 (by lia) h3.1 h3.2.1 (by lia) (by lia) (by lia), e5 i h0 (by lia), F.out i h0 (by lia) h3.1 h3.2.1 (by lia) (by lia) (by lia)]
    exact M.out i h0 h1 h2
theorem Mt.cd (H : Nm o N T0 T1) {e : Int} (M : Mt o N it0 it1 k e m) : Cd o m := ⟨H.cd.ho, M.len, fun j h0 h1 => (M.out _ (by have := H.cd.ho; lia) (by have := H.cd.ho; lia) (nsc (by have := H.cd.ho; lia))).trans (H.cd.code j h0 h1)⟩
/-- a leaf of each: from main to the comparison -/
theorem run_both {q0 q1 : Nat} (H : Nm o N T0 T1) (M : Ms N p0 p1 s0 s1 k m) (h0 : RetA 0 p0 s0 r0) (h1 : RetA 1 p1 s1 r1) (g0 : Go o 0 T0 r0 s0 (s0 + 2) p0 it0 q0) (g1 : Go o 1 T1 r1 s1 (s1 + 2) p1 it1 q1) (v0 : 0 ≤ it0.v ∧ it0.v < 256) (v1 : 0 ≤ it1.v ∧ it1.v < 256) :
    ∃ m', Run (o + 87) (q0 + q1 + 16) ⟨a, x, y, 255, Pf n z c, o + 0, m⟩ ⟨it1.v, 253, 1, 255, Pc it1.v it0.v, o + 14, m'⟩ ∧ Mt o N it0 it1 k 0 m' := by
  obtain ⟨n', z', c', m1, a1, F⟩ := run_turn0 (a := a) (x := x) (n := decide (128 ≤ (0 : Int))) (z := (0 : Int) == 0) (c := c) (M.n0 H h0) g0
  have N1 := n1_of (v := it0.v) H M F h1
  have cd1 : Cd o m1 := ⟨H.cd.ho, F.len, fun j g0 g1 => (F.out _ (by have := H.cd.ho; lia) (by have := H.cd.ho; lia) (by have := H.cd.ho; lia) (by have := H.cd.ho; lia) (by have := H.cd.ho; lia) (by have := H.cd.ho; lia) (by have := H.cd.ho; lia)).trans ((M.cd H).code j g0 g1)⟩
  obtain ⟨n₂, z₂, c₂, m2, a2, G⟩ := run_turn1 (a := it0.v) (x := 253) (n := decide (128 ≤ (1 : Int))) (z := (1 : Int) == 0) (c := c') N1 g1
  have E := mt_of M F G
  have e : q0 + q1 + 16 = (((q1 + 6) + 1 + 1 + 1) + (q0 + 6)) + 1 := by lia
  rw [e]
  have a3 : Run (o + 87) (0 + 1) ⟨it1.v, 253, 1, 255, Pf n₂ z₂ c₂, o + 12, m2⟩ ⟨it1.v, 253, 1, 255, Pc it1.v it0.v, o + 14, m2⟩ := .cons (i12 (E.cd H) E.c5 v1 v0) (ns (by decide)) .nil
  have a4 : Run (o + 87) ((q1 + 6) + 1 + 1 + 1) ⟨it0.v, 253, 0, 255, Pf n' z' c', o + 5, m1⟩ ⟨it1.v, 253, 1, 255, Pc it1.v it0.v, o + 14, m2⟩ := by
    have := a2.app a3
    rw [show 0 + 1 + (q1 + 6) = q1 + 6 + 1 by lia] at this
    exact .cons (i5 cd1) (ns (by decide)) (.cons (i7 N1.cd) (ns (by decide)) this)
  exact ⟨m2, .cons (i0 (M.cd H)) (ns (by decide)) (a1.app a4), E⟩
end
/-- how many agree from the beginning -/
noncomputable def agr : List Int → List Int → Nat
  | a :: A, b :: B => if a = b then agr A B + 1 else 0
  | _, _ => 0
/-- the flags in the end -/
noncomputable def fl (v0 v1 : Int) : Int := if v0 = v1 then 49 else Pc v1 v0
inductive Head (o w : Int) (T : Tr) (pc x s : Int) (p : List Int) (its : List It) (q : Nat) (e f : Int) (g : List Int) : Prop
  | mk (it : It) (rest : List It) (k : Nat) (r : Int) (h1 : its = it :: rest) (h2 : k ≤ q) (h3 : Go o w T pc x s p it k) (h4 : 0 ≤ it.v ∧ it.v < 256) (h5 : RetA w it.p it.s r) (h6 : rest ≠ [] → ∃ q', q = q' + k ∧ ∀ x', Ch o w T r x' (it.s + 2) it.p rest q' e f g) : Head o w T pc x s p its q e f g
theorem Ch.head {o w : Int} {T : Tr} {pc x s e f : Int} {p g : List Int} {its : List It} {q : Nat} (h : Ch o w T pc x s p its q e f g) : Head o w T pc x s p its q e f g := by
  cases h with
  | one h1 h2 h3 => exact ⟨_, [], _, _, rfl, Nat.le_refl _, h1, h2, h3, fun h => absurd rfl h⟩
  | more h1 h2 h3 h4 => exact ⟨_, _, _, _, rfl, Nat.le_add_left .., h1, h2, h3, fun _ => ⟨_, rfl, h4⟩⟩
section
variable {o : Int} {N p0 p1 m : List Int} {T0 T1 : Tr} {s0 s1 r0 r1 k a x y : Int} {n z c : Bool} {it0 it1 : It}
theorem Mt.set7 (M : Mt o N it0 it1 k 0 m) : Ms N it0.p it1.p it0.s it1.s (k + 1) (m.set (7 : Int).toNat (k + 1)) := by
  have hl := M.len
  have e : ∀ i : Int, 0 ≤ i → i ≠ 7 → get (m.set (7 : Int).toNat (k + 1)) i = get m i := fun i h0 h => get_ne h0 (by decide) (by lia) h
  exact ⟨(List.length_set ..).trans hl, M.l0, M.l1, fun i h0 h1 => (e i (by lia) (by lia)).trans (M.r0 i h0 h1), fun i h0 h1 => (e i (by lia) (by lia)).trans (M.r1 i h0 h1), (e 16 (by decide) (by decide)).trans M.c16, (e 17 (by decide) (by decide)).trans M.c17, get_eq (by decide) (by lia), (e 8 (by decide) (by decide)).trans M.c8,
    fun i h0 h1 h2 => (e i h0 (fun q => h2 (by unfold Sc; lia))).trans (M.out i h0 h1 h2)⟩
theorem Mt.set8 (M : Mt o N it0 it1 k 0 m) : Mt o N it0 it1 k 1 (m.set (8 : Int).toNat (0 + 1)) := by
  have hl := M.len
  have e : ∀ i : Int, 0 ≤ i → i ≠ 8 → get (m.set (8 : Int).toNat (0 + 1)) i = get m i := fun i h0 h => get_ne h0 (by decide) (by lia) h
  exact ⟨(List.length_set ..).trans hl, M.l0, M.l1, fun i h0 h1 => (e i (by lia) (by lia)).trans (M.r0 i h0 h1), fun i h0 h1 => (e i (by lia) (by lia)).trans (M.r1 i h0 h1), (e 16 (by decide) (by decide)).trans M.c16, (e 17 (by decide) (by decide)).trans M.c17, (e 2 (by decide) (by decide)).trans M.c2, (e 3 (by decide) (by decide)).trans M.c3, (e 5 (by decide) (by decide)).trans M.c5, (e 7 (by decide) (by decide)).trans M.c7,
    get_eq (by decide) (by lia), (e 510 (by decide) (by decide)).trans M.c510, (e 511 (by decide) (by decide)).trans M.c511, fun i h0 h1 h2 => (e i h0 (fun q => h2 (by unfold Sc; lia))).trans (M.out i h0 h1 h2)⟩
theorem Mt.same {e : Int} (M : Mt o N it0 it1 k e m) {k' e' : Int} (h1 : k = k') (h2 : e = e') : Mt o N it0 it1 k' e' m := by subst h1 h2; exact M
/-- they differ -/
theorem end_ne (H : Nm o N T0 T1) (M : Mt o N it0 it1 k 0 m) (h : it0.v ≠ it1.v) : Run (o + 87) 1 ⟨it1.v, 253, 1, 255, Pc it1.v it0.v, o + 14, m⟩ ⟨it1.v, 253, 1, 255, fl it0.v it1.v, o + 87, m⟩ := by
  unfold fl
  rw [if_neg h]
  exact .cons (t14 (M.cd H) (beq_eq_false_iff_ne.mpr (Ne.symm h))) (ns (by decide)) .nil
/-- both are over -/
theorem end_eq (H : Nm o N T0 T1) (M : Mt o N it0 it1 k 0 m) (h0 : it0.v = 0) (h1 : it1.v = 0) : Run (o + 87) 5 ⟨it1.v, 253, 1, 255, Pc it1.v it0.v, o + 14, m⟩ ⟨it1.v, 253, 1, 255, fl it0.v it1.v, o + 87, m.set (8 : Int).toNat (0 + 1)⟩ := by
  have e : Pz (0 + 1) (decide ((0 : Int) ≤ 0)) = fl 0 0 := by decide +kernel
  rw [h0, h1, ← e]
  exact .cons (n14 (M.cd H) rfl) (ns (by decide)) (.cons (i16 (M.cd H) (by decide)) (ns (by decide)) (.cons (t18 (M.cd H) rfl) (ns (by decide)) (.cons (i25 (M.cd H) M.c8 (by decide) (by decide)) (ns (by decide)) (.cons (i27 (M.set8.cd H)) (ns (by decide)) .nil))))
/-- they agree: on -/
theorem run_on (H : Nm o N T0 T1) (M : Mt o N it0 it1 k 0 m) (h : it0.v = it1.v) (h0 : it1.v ≠ 0) (hv : 0 ≤ it1.v ∧ it1.v < 256) (hk : 0 ≤ k ∧ k < 255) : ∃ n' z' c', Run (o + 87) 5 ⟨it1.v, 253, 1, 255, Pc it1.v it0.v, o + 14, m⟩ ⟨it1.v, 253, 1, 255, Pf n' z' c', o + 0, m.set (7 : Int).toNat (k + 1)⟩ := by
  have cd7 : Cd o (m.set (7 : Int).toNat (k + 1)) := M.set7.cd H
  exact ⟨_, _, _, .cons (n14 (M.cd H) (beq_iff_eq.mpr h.symm)) (ns (by decide)) (.cons (i16 (M.cd H) hv) (ns (by decide)) (.cons (n18 (M.cd H) (beq_eq_false_iff_ne.mpr h0)) (ns (by decide)) (.cons (i20 (M.cd H) M.c7 hk.1 hk.2) (ns (by decide)) (.cons (i22 cd7) (ns (by decide)) .nil))))⟩
end
/-- the end of the rounds -/
inductive Rds (o : Int) (N : List Int) (A B : List Int) (its0 its1 : List It) (b k : Nat) (m₀ : M) : Prop
  | mk (j : Nat) (it0 it1 : It) (m' : List Int) (h1 : j ≤ b) (h2 : its0[agr A B]? = some it0) (h3 : its1[agr A B]? = some it1) (h4 : Run (o + 87) j m₀ ⟨it1.v, 253, 1, 255, fl it0.v it1.v, o + 87, m'⟩) (h5 : Mt o N it0 it1 ((k + agr A B : Nat) : Int) (if it0.v = it1.v then 1 else 0) m') : Rds o N A B its0 its1 b k m₀
theorem map_cons {its : List It} {it : It} {rest : List It} {A : List Int} {b : Int} (h : its = it :: rest) (e : its.map It.v = b :: A) : it.v = b ∧ rest.map It.v = A := by
  subst h
  rw [List.map_cons] at e
  exact ⟨(List.cons.inj e).1, (List.cons.inj e).2⟩
theorem map_ne {rest : List It} {A : List Int} (h : rest.map It.v = A ++ [0]) : rest ≠ [] := by
  rintro rfl
  simp at h
theorem rds_ne {o : Int} {N A B : List Int} {its0 its1 : List It} {it0 it1 : It} {rest0 rest1 : List It} {T0 T1 : Tr} {b k q0 q1 : Nat} {m₀ : M} {m : List Int} (H : Nm o N T0 T1) (h1 : its0 = it0 :: rest0) (h2 : its1 = it1 :: rest1) (hA : agr A B = 0) (hb : q0 + q1 + 17 ≤ b) (R : Run (o + 87) (q0 + q1 + 16) m₀ ⟨it1.v, 253, 1, 255, Pc it1.v it0.v, o + 14, m⟩) (E : Mt o N it0 it1 k 0 m) (h : it0.v ≠ it1.v) : Rds o N A B its0 its1 b k m₀ := by
  have R2 := R.app (end_ne H E h)
  exact ⟨_, it0, it1, m, by lia, by rw [hA, h1]; rfl, by rw [hA, h2]; rfl, R2, E.same (by rw [hA]; rfl) (by rw [if_neg h])⟩
theorem rounds {o : Int} {N : List Int} {T0 T1 : Tr} (H : Nm o N T0 T1) {e0 f0 e1 f1 : Int} {g0 g1 : List Int} : ∀ (A B : List Int) (its0 its1 : List It) (q0 q1 k : Nat) (p0 p1 m : List Int) (s0 s1 r0 r1 a x y : Int) (n z c : Bool), Ms N p0 p1 s0 s1 k m → RetA 0 p0 s0 r0 → RetA 1 p1 s1 r1 → Ch o 0 T0 r0 s0 (s0 + 2) p0 its0 q0 e0 f0 g0 → Ch o 1 T1 r1 s1 (s1 + 2) p1 its1 q1 e1 f1 g1 →
    its0.map It.v = A ++ [0] → its1.map It.v = B ++ [0] → (∀ v ∈ A, v ≠ 0) → (∀ v ∈ B, v ≠ 0) → k + A.length ≤ 100 → Rds o N A B its0 its1 (q0 + q1 + 21 * (A.length + 1)) k ⟨a, x, y, 255, Pf n z c, o + 0, m⟩
  | A, B, its0, its1, q0, q1, k, p0, p1, m, s0, s1, r0, r1, a, x, y, n, z, c, M, hr0, hr1, c0, c1, e0, e1, hA, hB, hk => by
    obtain ⟨it0, rest0, k0, r0', a1, a2, a3, a4, a5, a6⟩ := c0.head
    obtain ⟨it1, rest1, k1, r1', b1, b2, b3, b4, b5, b6⟩ := c1.head
    obtain ⟨m', R, E⟩ := run_both (a := a) (x := x) (y := y) (n := n) (z := z) (c := c) H M hr0 hr1 a3 b3 a4 b4
    match A, B, e0, e1, hA, hB, hk with
    | [], [], e0, e1, hA, hB, hk =>
      obtain ⟨v0, _⟩ := map_cons a1 e0
      obtain ⟨v1, _⟩ := map_cons b1 e1
      exact ⟨_, it0, it1, _, by lia, by rw [a1]; rfl, by rw [b1]; rfl, R.app (end_eq H E v0 v1), E.set8.same rfl (by rw [if_pos (v0.trans v1.symm)])⟩
    | [], b :: B, e0, e1, hA, hB, hk =>
      obtain ⟨v0, _⟩ := map_cons a1 e0
      obtain ⟨v1, _⟩ := map_cons b1 e1
      exact rds_ne H a1 b1 rfl (by lia) R E (by rw [v0, v1]; exact Ne.symm (hB b (.head _)))
    | b :: A, [], e0, e1, hA, hB, hk =>
      obtain ⟨v0, _⟩ := map_cons a1 e0
      obtain ⟨v1, _⟩ := map_cons b1 e1
      exact rds_ne H a1 b1 rfl (by lia) R E (by rw [v0, v1]; exact hA b (.head _))
    | b :: A, d :: B, e0, e1, hA, hB, hk =>
      obtain ⟨v0, w0⟩ := map_cons a1 e0
      obtain ⟨v1, w1⟩ := map_cons b1 e1
      by_cases h : b = d
      · subst h
        have nz : it1.v ≠ 0 := by rw [v1]; exact hA b (.head _)
        rw [List.length_cons] at hk
        obtain ⟨n', z', c', R2⟩ := run_on H E (v0.trans v1.symm) nz b4 (by lia)
        obtain ⟨q0', d1, d2⟩ := a6 (map_ne w0)
        obtain ⟨q1', d3, d4⟩ := b6 (map_ne w1)
        obtain ⟨j, i0, i1, m2, l1, l2, l3, l4, l5⟩ := rounds H A B rest0 rest1 q0' q1' (k + 1) it0.p it1.p _ it0.s it1.s r0' r1' it1.v 253 1 n' z' c' E.set7 a5 b5 (d2 _) (d4 _) w0 w1 (fun v hv => hA v (.tail _ hv)) (fun v hv => hB v (.tail _ hv)) (by lia)
        have ea : agr (b :: A) (b :: B) = agr A B + 1 := if_pos rfl
        exact ⟨_, i0, i1, m2, by rw [List.length_cons]; lia, by rw [ea, a1, List.getElem?_cons_succ]; exact l2, by rw [ea, b1, List.getElem?_cons_succ]; exact l3, (R.app R2).app l4, l5.same (by rw [ea]; congr 1; lia) rfl⟩
      · exact rds_ne H a1 b1 (if_neg h) (by lia) R E (by rw [v0, v1]; exact h)
noncomputable def nilFn : Fn := { a := 0, name := Str.ofString "", qual := Str.ofString "", params := default, body := [], cs := default, dV := .none, kV := .none, doc := .none, pm := .none, an := none, cd := .none, ct := .none, xs := [], rest := [] }
noncomputable def lawF : Fn := (fnOfRec 11 1537).getD nilFn
noncomputable def fL : Fx := ⟨lawF.cs, true⟩
noncomputable def stA (l : List Stmt) (i : Nat) : Stmt := match l.drop i with
  | s :: _ => s
  | [] => .Pass default
noncomputable def lst (i : Nat) : Stmt := stA lawF.body i
/-- the body of a loop, of an if -/
noncomputable def bodyOf (s : Stmt) : List Stmt := (sPt s).2.2.2.1
noncomputable def elseOf (s : Stmt) : List Stmt := (sPt s).2.2.2.2.1
noncomputable def iterOf (s : Stmt) : Expr := (sPt s).2.1
noncomputable def targetOf (s : Stmt) : Expr := (sPt s).2.2.1
noncomputable def testOf (s : Stmt) : Expr := (sPt s).2.2.1
noncomputable def posOfS (s : Stmt) : Pos := (sPt s).2.2.2.2.2
noncomputable def lnames : List Str := [Str.ofString "script", Str.ofString "place", Str.ofString "lists", Str.ofString "other", Str.ofString "change", Str.ofString "origin", Str.ofString "code", Str.ofString "start", Str.ofString "which", Str.ofString "agree", Str.ofString "given", Str.ofString "kept", Str.ofString "base", Str.ofString "leaf", Str.ofString "part", Str.ofString "cell", Str.ofString "same", Str.ofString "flags", Str.ofString "mpu", Str.ofString "rounds", Str.ofString "seen"]
noncomputable def lcs (l : List (Option AV)) : List (Str × Option AV) := lnames.zip l
noncomputable def cs8 : List (Str × Nat) := [(Str.ofString "way", 0), (Str.ofString "walk", 1), (Str.ofString "spots", 2), (Str.ofString "plain", 3), (Str.ofString "number", 4), (Str.ofString "memory", 5), (Str.ofString "hang", 6), (Str.ofString "drawn", 7)]
noncomputable def LS (st : Stmt) (σ : S) (o : Orc) : R Out := lawS pw K 40 U4 (LE 39) fL st σ o
noncomputable def LB (st : List Stmt) (σ : S) (o : Orc) : R Out := lawB pw K 40 U4 (LE 39) fL st σ o
noncomputable def LX (e : Expr) (σ : S) (o : Orc) : R AV := lawE pw K 40 U4 (LE 39) fL e σ o
noncomputable def LT (e : Expr) (σ : S) (o : Orc) : R Bool := lawT 40 (LE 39) fL e σ o
theorem LS_ok {st : Stmt} {σ σ' : S} {o : Orc} {out : Out} {g : List Prop} (h : LS st σ o = some (out, σ', [], g)) (hg : ∀ p ∈ g, p) : EvS pw K fL 40 st σ out σ' := lawS_ok U4_ok (lawN_ok U4_ok 39) h hg
theorem LB_ok {st : List Stmt} {σ σ' : S} {o : Orc} {out : Out} {g : List Prop} (h : LB st σ o = some (out, σ', [], g)) (hg : ∀ p ∈ g, p) : EvB pw K fL 40 st σ out σ' := lawB_ok U4_ok (lawN_ok U4_ok 39) h hg
theorem LX_ok {e : Expr} {σ σ' : S} {o : Orc} {x : AV} {g : List Prop} (h : LX e σ o = some (x, σ', [], g)) (hg : ∀ p ∈ g, p) : EvE pw K fL 40 e σ x σ' := lawE_ok U4_ok.T (lawN_ok U4_ok 39) h hg
theorem LT_ok {e : Expr} {σ σ' : S} {o : Orc} {x : Bool} {g : List Prop} (h : LT e σ o = some (x, σ', [], g)) (hg : ∀ p ∈ g, p) : EvT pw K fL 40 e σ x σ' := lawT_ok U4_ok.T (lawN_ok U4_ok 39) h hg
noncomputable def fin {α β : Type} (ren : α → Option β) (σ : S) (sel : List Nat) (r : R α) : Option (β × S × List Prop) := opt r fun q => tst (isNil q.2.2.1) (tst (selOk σ.objs.length q.2.1.objs.length sel) (opt (renS sel q.2.1) fun σ'' => opt (ren q.1) fun y => some (y, σ'', q.2.2.2)))
theorem isNil_of {α : Type} {l : List α} (h : isNil l = true) : l = [] := by
  cases l with
  | nil => rfl
  | cons => exact nb_ h
inductive FinI {α β : Type} (ren : α → Option β) (σ : S) (sel : List Nat) (r : R α) (y : β) (σ'' : S) (g : List Prop) : Prop
  | mk (x : α) (σ' : S) (h1 : r = some (x, σ', [], g)) (h2 : selOk σ.objs.length σ'.objs.length sel = true) (h3 : renS sel σ' = some σ'') (h4 : ren x = some y) : FinI ren σ sel r y σ'' g
theorem fin_of {α β : Type} {ren : α → Option β} {σ σ'' : S} {sel : List Nat} {r : R α} {y : β} {g : List Prop} (h : fin ren σ sel r = some (y, σ'', g)) : FinI ren σ sel r y σ'' g := by
  obtain ⟨⟨x, σ', o, g'⟩, h0, h⟩ := opt_some h
  obtain ⟨h1, h⟩ := tst_some h
  obtain ⟨h2, h⟩ := tst_some h
  obtain ⟨σ₂, h3, h⟩ := opt_some h
  obtain ⟨y', h4, h⟩ := opt_some h
  obtain rfl := isNil_of h1
  have e := Option.some.inj h
  have e1 : y' = y := congrArg (·.1) e
  have e2 : σ₂ = σ'' := congrArg (·.2.1) e
  have e3 : g' = g := congrArg (·.2.2) e
  exact ⟨x, σ', e3 ▸ h0, h2, e2 ▸ h3, e1 ▸ h4⟩
noncomputable def LSc (st : Stmt) (σ : S) (o : Orc) (sel : List Nat) := fin (renOut sel) σ sel (LS st σ o)
theorem LSc_ok {st : Stmt} {σ σ' : S} {o : Orc} {sel : List Nat} {out : Out} {g : List Prop} (h : LSc st σ o sel = some (out, σ', g)) (hg : ∀ p ∈ g, p) : EvS pw K fL 40 st σ out σ' := by
  obtain ⟨x, σ₁, h1, h2, h3, h4⟩ := fin_of h
  exact (LS_ok h1 hg).gc h2 h3 h4
noncomputable def LXd (d : Nat) (f : Fx) (e : Expr) (σ : S) (o : Orc) : R AV := lawE pw K (d + 1) U4 (LE d) f e σ o
noncomputable def LTd (d : Nat) (f : Fx) (e : Expr) (σ : S) (o : Orc) : R Bool := lawT (d + 1) (LE d) f e σ o
theorem LXd_ok {d : Nat} {f : Fx} {e : Expr} {σ σ' : S} {o : Orc} {x : AV} {g : List Prop} (h : LXd d f e σ o = some (x, σ', [], g)) (hg : ∀ p ∈ g, p) : EvE pw K f (d + 1) e σ x σ' := lawE_ok U4_ok.T (lawN_ok U4_ok d) h hg
theorem LTd_ok {d : Nat} {f : Fx} {e : Expr} {σ σ' : S} {o : Orc} {x : Bool} {g : List Prop} (h : LTd d f e σ o = some (x, σ', [], g)) (hg : ∀ p ∈ g, p) : EvT pw K f (d + 1) e σ x σ' := lawT_ok U4_ok.T (lawN_ok U4_ok d) h hg
/-- what a turn of a comprehension sees -/
abbrev sT (ob : List AO) (x : Str) (k : Int) (cs : List (Str × Nat)) : S := ⟨ob, [(x, some (.int k))], cs⟩
theorem turn_plain {d : Nat} {p : CP} {ob : List AO} {cs : List (Str × Nat)} {k z : Int} {y : AV} {g : List Prop} (hi : p.ifs = []) (h : LXd d (gOf fL p.scope) p.elt (sT ob p.x k cs) [] = some (y, sT ob p.x k cs, [], g)) (hg : ∀ p ∈ g, p) (w : WkV y (.int z)) : Turn1 pw K (gOf fL p.scope) (d + 1) p.x cs p.ifs p.elt ob k (some z) :=
  ⟨sT ob p.x k cs, sT ob p.x k cs, y, by rw [hi]; exact .nil, LXd_ok h hg, w, rfl⟩
theorem turn_no {d : Nat} {p : CP} {ct : Expr} {ob : List AO} {cs : List (Str × Nat)} {k : Int} {o : Orc} {g' : List Prop} (hi : p.ifs = [ct]) (ht : LTd d (gOf fL p.scope) ct (sT ob p.x k cs) o = some (false, sT ob p.x k cs, [], g')) (hg' : ∀ p ∈ g', p) : Turn1 pw K (gOf fL p.scope) (d + 1) p.x cs p.ifs p.elt ob k none :=
  ⟨sT ob p.x k cs, by rw [hi]; exact .one (LTd_ok ht hg'), rfl⟩
theorem WkOs.refl : ∀ {l : List AO}, WkOs l l
  | [] => .nil
  | _ :: _ => .cons .refl .refl
/-- the numbers below n -/
noncomputable def upto (n : Nat) : List Nat := List.range n
noncomputable def nilC : FnC := { name := Str.ofString "", qual := Str.ofString "", params := default, body := [], cs := default, xs := [], rest := [] }
noncomputable def fnCOf : Stmt → FnC
  | .FunctionDef name params body _ _ _ scope _ _ _ => { name, qual := Str.ofString "law.<locals>." ++ name, params, body, cs := scope, xs := params.args.map (·.arg), rest := (scope.names.filter fun p => p.2 == .local && !(params.args.map (·.arg)).contains p.1).map (·.1) }
  | _ => nilC
noncomputable def hangC : FnC := fnCOf (lst 9)
noncomputable def wayC : FnC := fnCOf (lst 15)
noncomputable def walkC : FnC := fnCOf (lst 16)
noncomputable def scOkC (F : FnC) : Bool := (F.xs.all fun y => F.cs.names.lookup y == some .local) && (F.cs.names.all fun y => y.2 != .cell) && !F.cs.isCoroutine && !F.cs.isGenerator && (F.cs.kind == .function) && decide (F.xs ++ F.rest).Nodup && Nat.ble F.xs.length 4
theorem c_sc : ([hangC, wayC, walkC].all scOkC) = true := by kernel_rfl
theorem c_bind : ([hangC, wayC, walkC].map fun F => fun (cl : List (Str × Addr)) (doc pm : Value) (ce : Addr) (ctv v w x y : Value) => bindArgs (fnX F.name F.qual F.params F.body F.cs cl .none .none doc pm none (.ref ce) ctv) ⟨[v, w, x, y].take F.xs.length, []⟩) = [hangC, wayC, walkC].map fun F => fun _ _ _ _ _ v w x y => pure (F.xs.zip ([v, w, x, y].take F.xs.length)) := by kernel_rfl
theorem fnC_ok : ∀ F ∈ [hangC, wayC, walkC], FnCOk F := by
  intro F hF
  have s := all_of c_sc F hF
  unfold scOkC at s
  simp only [Bool.and_eq_true, Bool.not_eq_true', beq_iff_eq, decide_eq_true_eq, List.all_eq_true, bne_iff_ne] at s
  obtain ⟨⟨⟨⟨⟨⟨s1, s2⟩, s3⟩, s4⟩, s5⟩, s6⟩, s7⟩ := s
  refine ⟨fun cl doc pm ce ctv vs hv => ?_, s1, s6, s2, s3, s4, s5⟩
  obtain ⟨v, w, x, y, rfl⟩ := pad4 hv (Nat.le_of_ble_eq_true s7)
  have := map_of c_bind F hF
  exact congrFun (congrFun (congrFun (congrFun (congrFun (congrFun (congrFun (congrFun (congrFun this cl) doc) pm) ce) ctv) v) w) x) y
theorem hangC_ok : FnCOk hangC := fnC_ok _ (.head _)
theorem wayC_ok : FnCOk wayC := fnC_ok _ (.tail _ (.head _))
theorem walkC_ok : FnCOk walkC := fnC_ok _ (.tail _ (.tail _ (.head _)))
/-- a call that lengthens nothing, beside further objects -/
theorem over_app {α : Type} {sel : List Nat} {xs : List α} : ∀ {l r : List α} {i : Nat}, over sel xs i (l ++ r) = over sel xs i l ++ over sel xs (i + l.length) r
  | [], r, i => rfl
  | a :: l, r, i => by
    show _ :: over sel xs (Nat.succ i) (l ++ r) = _ :: (over sel xs (Nat.succ i) l ++ _)
    rw [over_app, List.length_cons, show Nat.succ i + l.length = i + (l.length + 1) by lia]
theorem over_tail {α : Type} {sel : List Nat} {xs : List α} : ∀ {r : List α} {i : Nat}, (∀ k ∈ sel, k < i) → over sel xs i r = r
  | [], _, _ => rfl
  | a :: r, i, h => by
    have e : idx i sel = none := by
      cases q : idx i sel with
      | none => rfl
      | some k => exact absurd (h i (List.mem_of_getElem? (idx_of q))) (Nat.lt_irrefl _)
    show (match idx i sel with | some k => _ | none => a) :: over sel xs (Nat.succ i) r = _
    rw [e, over_tail fun k hk => Nat.lt_succ_of_lt (h k hk)]
theorem CallG.frm {cd : List Value → Code} {d : Nat} {args argsB : List AV} {objs objsS objsS' objs' : List AO} {x x' : AV} {sel : List Nat} (h : CallG pw K cd d args objsS x objsS') (hs : selOk 0 objs.length sel = true) (hren : renOs sel objs sel = some objsS) (hargs : renVs sel argsB = some args) (hlen : Nat.ble sel.length objsS'.length = true)
    (hx : embV (back sel objs.length) x = x') (ho : over sel (objsS'.map (embO (back sel objs.length))) 0 objs ++ (objsS'.drop sel.length).map (embO (back sel objs.length)) = objs') : CallG pw K cd d argsB objs x' objs' := by
  obtain ⟨h1, _, h3⟩ := selOk_of hs
  have := CallG.frame h h1 h3 hren hargs (Nat.le_of_ble_eq_true hlen)
  rw [hx, ho] at this
  exact this
theorem CallG.frmY {cd : List Value → Code} {d : Nat} {args argsB : List AV} {objs Y objsS objsS' objs' : List AO} {x x' : AV} {sel : List Nat} (h : CallG pw K cd d args objsS x objsS') (hs : selOk 0 objs.length sel = true) (hren : renOs sel (objs ++ Y) sel = some objsS) (hargs : renVs sel argsB = some args) (hlen : Nat.beq objsS'.length sel.length = true)
    (hx : ∀ n, embV (back sel n) x = x') (ho : ∀ n, over sel (objsS'.map (embO (back sel n))) 0 objs = objs') : CallG pw K cd d argsB (objs ++ Y) x' (objs' ++ Y) := by
  obtain ⟨h1, _, h3⟩ := selOk_of hs
  have hl := Nat.eq_of_beq_eq_true hlen
  have := CallG.frame h h1 (fun i hi => by rw [List.length_append]; exact Nat.lt_of_lt_of_le (h3 i hi) (Nat.le_add_right _ _)) hren hargs (by rw [hl]; exact Nat.le_refl _)
  rw [hx, over_app, ho, over_tail (fun k hk => by rw [Nat.zero_add]; exact h3 k hk), List.drop_of_length_le (Nat.le_of_eq hl), List.map_nil, List.append_nil] at this
  exact this
theorem CallG.more {cd : List Value → Code} {d d' : Nat} {args : List AV} {objs objs' : List AO} {x : AV} (h : CallG pw K cd d args objs x objs') (le : d ≤ d') : CallG pw K cd d' args objs x objs' := fun f c σ hf ok => h f c σ hf (ok.weak (by lia))
theorem CallG.drop {cd : List Value → Code} {d : Nat} {args : List AV} {objs objs' objs'' : List AO} {x : AV} (h : CallG pw K cd d args objs x objs') (n : Nat) (hn : Nat.ble objs.length n = true) (hx : limV n x = true) (hl : (objs'.take n).all (limO n) = true) (ho : objs'.take n = objs'') :
    CallG pw K cd d args objs x objs'' := by
  subst ho
  intro f c σ hf ok hσ as os m s vs Q E R rvs hq
  refine h f c σ hf ok hσ as os m s vs Q E R rvs fun bs os' m' v s' rv R' => ?_
  have la : as.length ≤ n := by rw [← R.len', hσ]; exact Nat.le_of_ble_eq_true hn
  have R'' := R'.drop n hl (fun y av hm => by
    obtain ⟨u, _, r⟩ := R.locs y av hm
    exact limV.mono r.lim la) (fun y i hm => by
    obtain ⟨a, _, e⟩ := R.cells y i hm
    exact Nat.lt_of_lt_of_le (List.getElem?_eq_some_iff.mp e).1 la)
  have e : (as ++ bs).take n = as ++ bs.take (n - as.length) := by
    rw [List.take_append, List.take_of_length_le la]
  rw [e] at R''
  refine hq _ _ _ _ _ ?_ R''
  rw [← e]
  exact rv.down hx
/-- blocks, statements at any level -/
noncomputable def LBd (d : Nat) (f : Fx) (st : List Stmt) (σ : S) (o : Orc) : R Out := lawB pw K (d + 1) U4 (LE d) f st σ o
theorem LBd_ok {d : Nat} {f : Fx} {st : List Stmt} {σ σ' : S} {o : Orc} {out : Out} {g : List Prop} (h : LBd d f st σ o = some (out, σ', [], g)) (hg : ∀ p ∈ g, p) : EvB pw K f (d + 1) st σ out σ' := lawB_ok U4_ok (lawN_ok U4_ok d) h hg
noncomputable def callAs (e : Expr) : List Expr := (ePt e).2.2.1
noncomputable def callF (e : Expr) : Expr := (ePt e).1
noncomputable def callP (e : Expr) : Pos := (ePt e).2.2.2.2.2
noncomputable def augT (s : Stmt) : Expr := (sPt s).2.2.1
noncomputable def augV (s : Stmt) : Expr := (sPt s).2.1
noncomputable def augP (s : Stmt) : Pos := (sPt s).2.2.2.2.2
noncomputable def subV (e : Expr) : Expr := (ePt e).1
noncomputable def subS (e : Expr) : Expr := (ePt e).2.1
noncomputable def subP (e : Expr) : Pos := (ePt e).2.2.2.2.2
noncomputable def psOf (e : Expr) : Pos := (ePt e).2.2.2.2.2
noncomputable def hCl : List (Str × Nat) := [(Str.ofString "number", 0), (Str.ofString "memory", 1), (Str.ofString "hang", 2)]
/-- what hang sees -/
noncomputable abbrev hS (k : Int) (m ls : List Int) : List AO := [.cell (some (.obj 3)), .cell (some (.obj 4)), .cell (some (.obj 6)), .il [k], .il m, .code hangC.qual, .fn hangC hCl 5, .il ls]
@[irreducible] noncomputable def hL (s : Int) (n c : Option AV) : List (Str × Option AV) := [(Str.ofString "leaves", some (.obj 7)), (Str.ofString "seed", some (.int s)), (Str.ofString "node", n), (Str.ofString "cut", c)]
noncomputable abbrev fH : Fx := ⟨hangC.cs, true⟩
noncomputable def hst (i : Nat) : Stmt := stA hangC.body i
noncomputable abbrev hσ (k : Int) (m ls : List Int) (Y : List AO) (s : Int) (n c : Option AV) : S := ⟨hS k m ls ++ Y, hL s n c, hCl⟩
theorem h_body : hangC.body = [hst 0, hst 1, hst 2, hst 3] := by kernel_rfl
theorem h_locs (s : Int) : locs0 hangC.xs [.obj 7, .int s] hangC.rest = hL s none none := by kernel_rfl
theorem h0st : hst 0 = .AugAssign (.Subscript (subV (augT (hst 0))) (.Constant (.int 0) 0 (psOf (subS (augT (hst 0))))) (subP (augT (hst 0)))) .Add (augV (hst 0)) (augP (hst 0)) := by kernel_rfl
section
variable (d : Nat) (k : Int) (m ls : List Int) (s : Int)
theorem h0a : LXd d fH (subV (augT (hst 0))) (hσ k m ls [] s none none) [] = some (.obj 3, hσ k m ls [] s none none, [], []) := by kernel_rfl
theorem h0b : LXd d fH (.Constant (.int 0) 0 (psOf (subS (augT (hst 0))))) (hσ k m ls [] s none none) [] = some (.cint 0, hσ k m ls [] s none none, [], []) := by kernel_rfl
theorem h0c : LXd d fH (augV (hst 0)) (hσ k m ls [] s none none) [] = some (.cint 1, hσ k m ls [] s none none, [], []) := by kernel_rfl
end
theorem h0 (d : Nat) (k : Int) (m ls : List Int) (s : Int) : EvS pw K fH (d + 1) (hst 0) (hσ k m ls [] s none none) .next (hσ (k + 1) m ls [] s none none) := by
  rw [h0st]
  exact .augI (j := 3) (xs := [k]) (k := 0) (z := k + 1) (gs := []) (new := .int (k + 1)) (LXd_ok (h0a d k m ls s) g0) (LXd_ok (h0b d k m ls s) g0) (LXd_ok (h0c d k m ls s) g0) rfl rfl ⟨by decide, Int.zero_lt_one, by decide⟩ rfl g0 rfl (fun _ _ _ => rfl)
section
variable (d : Nat) (k : Int) (m ls : List Int) (s : Int)
theorem h_leaf : LBd (d + 11) fH [hst 1, hst 2, hst 3] (hσ k m ls [] s none none) [.b true] = some (.ret (.int k), hσ k (m.set (1024 + k).toNat (ls.getD (0 : Int).toNat 0)) ls [] s (some (.int k)) none, [], [InB 1 0, ls.length < 2 ^ 62, ((ls.length : Int) == 1) = true, InB ls.length 0, InB m.length (1024 + k)]) := by kernel_rfl
noncomputable def he (i : Nat) : Stmt := stA (elseOf (hst 2)) i
noncomputable def ctO (s : Int) (ls : List Int) : Int := 1 + s.fmod ((ls.length : Int) - 1)
theorem hc1 : valE (he 1) = .Call (.Name (Str.ofString "hang") (psOf (callF (valE (he 1))))) (callAs (valE (he 1))) [] (callP (valE (he 1))) := by kernel_rfl
theorem hc2 : valE (he 2) = .Call (.Name (Str.ofString "hang") (psOf (callF (valE (he 2))))) (callAs (valE (he 2))) [] (callP (valE (he 2))) := by kernel_rfl
theorem ha1 (n c : Option AV) : LXd d fH (.Name (Str.ofString "hang") (psOf (callF (valE (he 1))))) (hσ k m ls [] s n c) [] = some (.obj 6, hσ k m ls [] s n c, [], []) := by kernel_rfl
theorem ha2 (l : List Int) (n c : Option AV) : LXd d fH (.Name (Str.ofString "hang") (psOf (callF (valE (he 2))))) (hσ k m ls [.il l] s n c) [] = some (.obj 6, hσ k m ls [.il l] s n c, [], []) := by kernel_rfl
theorem hb1 (c : Int) : stArgs (LE (d + 9)) fH (callAs (valE (he 1))) (hσ k m ls [] s (some (.int k)) (some (.int c))) [] = some ([.obj 8, .int (s.fdiv 2)], hσ k m ls [.il (ls.take c.toNat)] s (some (.int k)) (some (.int c)), [], [ls.length ≤ 60000, 0 ≤ c, (2 : Int) ≠ 0, Builtin.divisionGoesByPylong s 2 = false]) := by kernel_rfl
theorem hb2 (l : List Int) (kk c : Int) : stArgs (LE (d + 9)) fH (callAs (valE (he 2))) (hσ k m ls [.il l] s (some (.int kk)) (some (.int c))) [] = some ([.obj 9, .int (s.fdiv 3)], hσ k m ls [.il l, .il (ls.drop c.toNat)] s (some (.int kk)) (some (.int c)), [], [ls.length ≤ 60000, 0 ≤ c, (3 : Int) ≠ 0, Builtin.divisionGoesByPylong s 3 = false]) := by kernel_rfl
theorem h_node (k1 k2 : Int) (m1 m2 l1 l2 : List Int) (li ri : Int) : LBd (d + 11) fH [hst 1, hst 2, hst 3] (hσ k m ls [] s none none) [.b false, .e (.int li) (hσ k1 m1 ls [.il l1] s (some (.int k)) (some (.int (ctO s ls)))), .e (.int ri) (hσ k2 m2 ls [.il l1, .il l2] s (some (.int k)) (some (.int (ctO s ls))))] =
    some (.ret (.int k), hσ k2 (m2.set (1088 + k).toNat ri) ls [.il l1, .il l2] s (some (.int k)) (some (.int (ctO s ls))), [],
      [InB 1 0, ls.length < 2 ^ 62, ((ls.length : Int) == 1) = false, ls.length < 2 ^ 62, (ls.length : Int) - 1 ≠ 0,
       EvE pw K fH (d + 10) (valE (he 1)) (hσ k m ls [] s (some (.int k)) (some (.int (ctO s ls)))) (.int li) (hσ k1 m1 ls [.il l1] s (some (.int k)) (some (.int (ctO s ls)))), InB m1.length (1056 + k),
       EvE pw K fH (d + 10) (valE (he 2)) (hσ k1 (m1.set (1056 + k).toNat li) ls [.il l1] s (some (.int k)) (some (.int (ctO s ls)))) (.int ri) (hσ k2 m2 ls [.il l1, .il l2] s (some (.int k)) (some (.int (ctO s ls)))), InB m2.length (1088 + k)]) := by kernel_rfl
end
theorem np2 (x : Int) : Builtin.divisionGoesByPylong x 2 = false := PyProof.noPylong_small (by decide)
theorem np3 (x : Int) : Builtin.divisionGoesByPylong x 3 = false := PyProof.noPylong_small (by decide)
theorem fmod_lt (k : Int) {n : Int} (h : 0 < n) : 0 ≤ k.fmod n ∧ k.fmod n < n := by
  rw [Int.fmod_eq_emod_of_nonneg _ (Int.le_of_lt h)]
  exact ⟨Int.emod_nonneg _ (by lia), Int.emod_lt_of_pos _ h⟩
theorem h_nd : (hCl.map (·.1)).Nodup := by decide +kernel
section
variable (k : Int) (m ls : List Int) (s : Int)
theorem h_re1 (l : List Int) : renOs [0, 1, 2, 3, 4, 5, 6, 8] (hS k m ls ++ [.il l]) [0, 1, 2, 3, 4, 5, 6, 8] = some (hS k m l) := by kernel_rfl
theorem h_re2 (l l' : List Int) : renOs [0, 1, 2, 3, 4, 5, 6, 9] (hS k m ls ++ [.il l, .il l']) [0, 1, 2, 3, 4, 5, 6, 9] = some (hS k m l') := by kernel_rfl
theorem h_ov1 (k' : Int) (m' l : List Int) : over [0, 1, 2, 3, 4, 5, 6, 8] ((hS k' m' l).map (embO (back [0, 1, 2, 3, 4, 5, 6, 8] 9))) 0 (hS k m ls ++ [.il l]) ++ ((hS k' m' l).drop 8).map (embO (back [0, 1, 2, 3, 4, 5, 6, 8] 9)) = hS k' m' ls ++ [.il l] := by kernel_rfl
theorem h_ov2 (k' : Int) (m' l l' : List Int) : over [0, 1, 2, 3, 4, 5, 6, 9] ((hS k' m' l').map (embO (back [0, 1, 2, 3, 4, 5, 6, 9] 10))) 0 (hS k m ls ++ [.il l, .il l']) ++ ((hS k' m' l').drop 8).map (embO (back [0, 1, 2, 3, 4, 5, 6, 9] 10)) = hS k' m' ls ++ [.il l, .il l'] := by kernel_rfl
theorem h_ob1 (l : List Int) : (hS k m ls ++ [.il l])[6]? = some (.fn hangC hCl 5) := rfl
theorem h_ob2 (l l' : List Int) : (hS k m ls ++ [.il l, .il l'])[6]? = some (.fn hangC hCl 5) := rfl
theorem h_tk (l l' : List Int) : (hS k m ls ++ [AO.il l, AO.il l']).take 8 = hS k m ls := rfl
theorem h_lim : (hS k m ls).all (limO 8) = true := by kernel_rfl
end
section
variable {d : Nat} {k k' : Int} {m m' ls : List Int} {s : Int} {r : Int} {c : Int}
theorem h_rec1 (hl : ls.length ≤ 60000) (hc : 0 ≤ c) (h : CallG pw K cdC (d + 9) [.obj 6, .obj 7, .int (s.fdiv 2)] (hS k m (ls.take c.toNat)) (.int r) (hS k' m' (ls.take c.toNat))) :
    EvE pw K fH (d + 10) (valE (he 1)) (hσ k m ls [] s (some (.int k)) (some (.int c))) (.int r) (hσ k' m' ls [.il (ls.take c.toNat)] s (some (.int k)) (some (.int c))) := by
  rw [hc1]
  obtain ⟨a1, a2⟩ := stArgs_ok (lawN_ok U4_ok (d + 9)) (hb1 d k m ls s c) (gcons hl (gcons hc (gcons (by decide) (gcons (np2 _) g0))))
  exact .callClo (d := d + 9) rfl (LXd_ok (ha1 (d + 9) k m ls s _ _) g0) a2 a1 (h_ob1 k m ls _) (h.frm (sel := [0, 1, 2, 3, 4, 5, 6, 8]) rfl (h_re1 k m ls _) rfl rfl rfl (h_ov1 k m ls k' m' _))
theorem h_rec2 {l : List Int} {kk : Int} (hl : ls.length ≤ 60000) (hc : 0 ≤ c) (h : CallG pw K cdC (d + 9) [.obj 6, .obj 7, .int (s.fdiv 3)] (hS k m (ls.drop c.toNat)) (.int r) (hS k' m' (ls.drop c.toNat))) :
    EvE pw K fH (d + 10) (valE (he 2)) (hσ k m ls [.il l] s (some (.int kk)) (some (.int c))) (.int r) (hσ k' m' ls [.il l, .il (ls.drop c.toNat)] s (some (.int kk)) (some (.int c))) := by
  rw [hc2]
  obtain ⟨a1, a2⟩ := stArgs_ok (lawN_ok U4_ok (d + 9)) (hb2 d k m ls s l kk c) (gcons hl (gcons hc (gcons (by decide) (gcons (np3 _) g0))))
  exact .callClo (d := d + 9) rfl (LXd_ok (ha2 (d + 9) k m ls s _ _ _) g0) a2 a1 (h_ob2 k m ls _ _) (h.frm (sel := [0, 1, 2, 3, 4, 5, 6, 9]) rfl (h_re2 k m ls _ _) rfl rfl rfl (h_ov2 k m ls k' m' _ _))
theorem h_call {σ' : List AO} {lo : List (Str × Option AV)} {x : AV} (hb : EvB pw K fH (d + 12) [hst 1, hst 2, hst 3] (hσ (k + 1) m ls [] s none none) (.ret x) ⟨σ', lo, hCl⟩) : CallG pw K cdC (d + 12) [.obj 6, .obj 7, .int s] (hS k m ls) x σ' := by
  refine callC_of (F := hangC) (k := 6) (j := 5) (cl := hCl) (args := [.obj 7, .int s]) (o := .ret x) (σ' := ⟨σ', lo, hCl⟩) hangC_ok rfl rfl h_nd rfl ?_ rfl rfl
  rw [h_body, h_locs]
  exact .cons (h0 (d + 11) k m ls s) hb
end
theorem one_of {ls : List Int} (h : ls.length = 1) : [ls.getD 0 0] = ls := by
  match ls, h with
  | [v], _ => rfl
inductive HangI (n : Nat) (ls : List Int) (s : Int) (k : Nat) (m : List Int) : Prop
  | mk (t : Tr) (k' : Nat) (h1 : Tr.Ok k t k') (h2 : t.lv = ls) (h3 : CallG pw K cdC (3 * n + 12) [.obj 6, .obj 7, .int s] (hS k m ls) (.int t.id) (hS k' (putT t m) ls)) : HangI n ls s k m
theorem hang_leaf {n : Nat} {ls : List Int} {s : Int} {k : Nat} {m : List Int} (h5 : ls.length = 1) (h3 : k + 2 * ls.length ≤ 32) (h4 : m.length = 1120) : HangI n ls s k m := by
  refine ⟨.leaf (k + 1) (ls.getD 0 0), k + 1, ⟨rfl, rfl⟩, one_of h5, ?_⟩
  exact h_call (LBd_ok (h_leaf (3 * n) ((k : Int) + 1) m ls s) (gcons ⟨by decide, by decide, by decide⟩ (gcons (by lia) (gcons (by simp [h5]) (gcons ⟨by decide, by lia, by decide⟩ (gcons ⟨by lia, by lia, by lia⟩ g0))))))
theorem hang_call (n : Nat) : ∀ (ls : List Int) (s : Int) (k : Nat) (m : List Int), 1 ≤ ls.length → ls.length ≤ n + 1 → k + 2 * ls.length ≤ 32 → m.length = 1120 → HangI n ls s k m := by
  induction n with
  | zero => exact fun ls s k m h1 h2 h3 h4 => hang_leaf (by lia) h3 h4
  | succ n ih =>
    intro ls s k m h1 h2 h3 h4
    have hl : ls.length < 2 ^ 62 := by lia
    by_cases h5 : ls.length = 1
    · exact hang_leaf h5 h3 h4
    have q := fmod_lt s (n := (ls.length : Int) - 1) (by lia)
    have c1 : 1 ≤ ctO s ls := by unfold ctO; lia
    have c2 : ctO s ls < ls.length := by unfold ctO; lia
    generalize hc : ctO s ls = c at *
    have l1 : (ls.take c.toNat).length = c.toNat := by rw [List.length_take]; lia
    have l2 : (ls.drop c.toNat).length = ls.length - c.toNat := List.length_drop
    obtain ⟨t1, k1, o1, v1, g1⟩ := ih (ls.take c.toNat) (s.fdiv 2) (k + 1) m (by lia) (by lia) (by lia) h4
    have m1 : ((putT t1 m).set (1056 + ((k : Int) + 1)).toNat (t1.id : Int)).length = 1120 := by rw [List.length_set, putT_len]; exact h4
    have n1 := o1.num
    rw [v1, l1] at n1
    obtain ⟨t2, k2, o2, v2, g2⟩ := ih (ls.drop c.toNat) (s.fdiv 3) k1 ((putT t1 m).set (1056 + ((k : Int) + 1)).toNat (t1.id : Int)) (by lia) (by lia) (by lia) m1
    refine ⟨.node (k + 1) t1 t2, k2, ⟨rfl, k1, o1, o2⟩, ?_, ?_⟩
    · show t1.lv ++ t2.lv = ls
      rw [v1, v2, List.take_append_drop]
    · have hp : (putT t1 m).length = 1120 := (putT_len ..).trans h4
      have hp2 : (putT t2 ((putT t1 m).set (1056 + ((k : Int) + 1)).toNat (t1.id : Int))).length = 1120 := (putT_len ..).trans m1
      have e := LBd_ok (hc ▸ h_node (3 * n + 3) ((k : Int) + 1) m ls s k1 k2 (putT t1 m) (putT t2 ((putT t1 m).set (1056 + ((k : Int) + 1)).toNat (t1.id : Int))) (ls.take c.toNat) (ls.drop c.toNat) t1.id t2.id)
        (gcons ⟨by decide, by decide, by decide⟩ (gcons hl (gcons (beq_eq_false_iff_ne.mpr (by lia)) (gcons hl (gcons (by lia) (gcons (h_rec1 (by lia) (by lia) g1) (gcons ⟨by lia, by lia, by lia⟩ (gcons (h_rec2 (by lia) (by lia) g2) (gcons ⟨by lia, by lia, by lia⟩ g0)))))))))
      exact (h_call e).drop 8 rfl rfl (h_lim _ _ _) (h_tk _ _ _ (ls.take c.toNat) (ls.drop c.toNat))
noncomputable def spt (x : Str) (o : Int) : Int := match look x (rawD o) with
  | some (.int v) => v
  | _ => 0
noncomputable def isW (x : Str) : Prop := x = Str.ofString "deep" ∨ x = Str.ofString "first" ∨ x = Str.ofString "last" ∨ x = Str.ofString "two"
noncomputable def wCl : List (Str × Nat) := [(Str.ofString "spots", 1), (Str.ofString "plain", 0)]
noncomputable abbrev wS (p : List Int) (o : Int) : List AO := [.cell (some (.obj 2)), .cell (some (.obj 3)), .il p, .dict (rawD o), .code wayC.qual, .fn wayC wCl 4]
@[irreducible] noncomputable def wL (c : Int) (x : Str) : List (Str × Option AV) := [(Str.ofString "cell", some (.int c)), (Str.ofString "name", some (.str x))]
noncomputable abbrev fW : Fx := ⟨wayC.cs, true⟩
noncomputable def wst : Stmt := stA wayC.body 0
noncomputable def tgi (i : Nat) : Expr := match (tgs wst).drop i with
  | e :: _ => e
  | [] => .Constant .none 0 default
noncomputable abbrev wσ (p : List Int) (o : Int) (Y : List AO) (c : Int) (x : Str) : S := ⟨wS p o ++ Y, wL c x, wCl⟩
theorem w_body : wayC.body = [wst] := by kernel_rfl
theorem w_locs (c : Int) (x : Str) : locs0 wayC.xs [.int c, .str x] wayC.rest = wL c x := by kernel_rfl
theorem w_st : wst = .Assign [.Tuple [.Subscript (subV (tgi 0)) (subS (tgi 0)) (subP (tgi 0)), .Subscript (subV (tgi 1)) (subS (tgi 1)) (subP (tgi 1))] (tgk wst) (tgp wst)] (valE wst) (stp_ wst) := by kernel_rfl
theorem w_sw : swappedStores [.Tuple [.Subscript (subV (tgi 0)) (subS (tgi 0)) (subP (tgi 0)), .Subscript (subV (tgi 1)) (subS (tgi 1)) (subP (tgi 1))] (tgk wst) (tgp wst)] (valE wst) (envOf fW.cs) = pure none := by kernel_rfl
theorem w_nc : notComp (valE wst) = true := by kernel_rfl
section
variable (d : Nat) (p : List Int) (o c : Int)
noncomputable abbrev wT (o : Int) (x : Str) : List AO := [.tup [.int ((spt x o + 2).fdiv 256), .int ((spt x o + 2).fmod 256)]]
theorem w_v {x : Str} (h : isW x) : LXd (d + 6) fW (valE wst) (wσ p o [] c x) [] = some (.obj 6, wσ p o (wT o x) c x, [], [(256 : Int) ≠ 0, Builtin.divisionGoesByPylong (spt x o + 2) 256 = false, (256 : Int) ≠ 0]) := by
  rcases h with rfl | rfl | rfl | rfl <;> kernel_rfl
theorem w_a0 (x : Str) (Y : List AO) : LXd (d + 6) fW (subV (tgi 0)) (wσ p o Y c x) [] = some (.obj 2, wσ p o Y c x, [], []) := by kernel_rfl
theorem w_b0 (x : Str) (Y : List AO) : LXd (d + 6) fW (subS (tgi 0)) (wσ p o Y c x) [] = some (.int c, wσ p o Y c x, [], []) := by kernel_rfl
theorem w_a1 (x : Str) (Y : List AO) : LXd (d + 6) fW (subV (tgi 1)) (wσ p o Y c x) [] = some (.obj 2, wσ p o Y c x, [], []) := by kernel_rfl
theorem w_b1 (x : Str) (Y : List AO) : LXd (d + 6) fW (subS (tgi 1)) (wσ p o Y c x) [] = some (.int (c - 1), wσ p o Y c x, [], []) := by kernel_rfl
theorem w_lim : (wS p o).all (limO 6) = true := by kernel_rfl
end
theorem w_nd : (wCl.map (·.1)).Nodup := by decide +kernel
theorem way_raw {d : Nat} {p : List Int} {o c : Int} {x : Str} (hx : isW x) (hp : p.length = 1120) (hc : 1 ≤ c ∧ c < 1120) : CallG pw K cdC (d + 8) [.obj 5, .int c, .str x] (wS p o) (.val .none) (wS ((p.set c.toNat ((spt x o + 2).fdiv 256)).set (c - 1).toNat ((spt x o + 2).fmod 256)) o) := by
  have t0 : EvAs pw K fW (d + 7) (.Subscript (subV (tgi 0)) (subS (tgi 0)) (subP (tgi 0))) (.int ((spt x o + 2).fdiv 256)) (wσ p o (wT o x) c x) (wσ (p.set c.toNat ((spt x o + 2).fdiv 256)) o (wT o x) c x) :=
    .subI (j := 2) (xs := p) (LXd_ok (w_a0 d p o c x _) g0) (LXd_ok (w_b0 d p o c x _) g0) rfl rfl rfl ⟨by lia, by lia, by lia⟩
  have t1 : EvAs pw K fW (d + 7) (.Subscript (subV (tgi 1)) (subS (tgi 1)) (subP (tgi 1))) (.int ((spt x o + 2).fmod 256)) (wσ (p.set c.toNat ((spt x o + 2).fdiv 256)) o (wT o x) c x) (wσ ((p.set c.toNat ((spt x o + 2).fdiv 256)).set (c - 1).toNat ((spt x o + 2).fmod 256)) o (wT o x) c x) :=
    .subI (j := 2) (xs := p.set c.toNat ((spt x o + 2).fdiv 256)) (LXd_ok (w_a1 d _ o c x _) g0) (LXd_ok (w_b1 d _ o c x _) g0) rfl rfl rfl ⟨by lia, by rw [List.length_set]; lia, by lia⟩
  have e : EvS pw K fW (d + 7) wst (wσ p o [] c x) .next (wσ ((p.set c.toNat ((spt x o + 2).fdiv 256)).set (c - 1).toNat ((spt x o + 2).fmod 256)) o (wT o x) c x) := by
    rw [w_st]
    exact .assignT (LXd_ok (w_v d p o c hx) (gcons ne256 (gcons (np256 _) (gcons ne256 g0)))) (.tuple (.told rfl) (.cons rfl t0 (.cons rfl t1 .nil))) (fun _ => by unfold swapsWithSole; exact swaps_plain w_nc) fun env he => (swap_env he).trans w_sw
  have b : EvB pw K fW (d + 8) wayC.body ⟨wS p o, locs0 wayC.xs [.int c, .str x] wayC.rest, wCl⟩ .next (wσ ((p.set c.toNat ((spt x o + 2).fdiv 256)).set (c - 1).toNat ((spt x o + 2).fmod 256)) o (wT o x) c x) := by
    rw [w_body, w_locs]
    exact .cons (e.more (Nat.le_succ _)) .nil
  exact (callC_of (F := wayC) (k := 5) (j := 4) (cl := wCl) (args := [.int c, .str x]) wayC_ok rfl rfl w_nd rfl b rfl rfl).drop 6 rfl rfl (w_lim _ _) rfl
theorem spt_deep (o : Int) : spt (Str.ofString "deep") o = o + 61 := (show spt (Str.ofString "deep") o = _ by kernel_rfl).trans (sp_deep o)
theorem spt_first (o : Int) : spt (Str.ofString "first") o = o + 39 := (show spt (Str.ofString "first") o = _ by kernel_rfl).trans (sp_first o)
theorem spt_last (o : Int) : spt (Str.ofString "last") o = o + 44 := (show spt (Str.ofString "last") o = _ by kernel_rfl).trans (sp_last o)
theorem spt_two (o : Int) : spt (Str.ofString "two") o = o + 9 := (show spt (Str.ofString "two") o = _ by kernel_rfl).trans (sp_two o)
theorem way_call {d : Nat} {p : List Int} {o c a : Int} {x : Str} (hx : isW x) (ha : spt x o = a) (hp : p.length = 1120) (hc : 1 ≤ c ∧ c < 1120) : CallG pw K cdC (d + 8) [.obj 5, .int c, .str x] (wS p o) (.val .none) (wS (wayP p c (a + 2)) o) := by
  have h := way_raw (d := d) (o := o) hx hp hc
  rw [ha, fd_of (rfl : a + 2 = a + 2), fm_of (rfl : a + 2 = a + 2)] at h
  exact h
noncomputable def kCl : List (Str × Nat) := [(Str.ofString "way", 2), (Str.ofString "walk", 3), (Str.ofString "plain", 0)]
noncomputable abbrev kS (p : List Int) (o : Int) (ks : List AV) : List AO := [.cell (some (.obj 4)), .cell (some (.obj 5)), .cell (some (.obj 7)), .cell (some (.obj 9)), .il p, .dict (rawD o), .code wayC.qual, .fn wayC wCl 6, .code walkC.qual, .fn walkC kCl 8, .list ks]
@[irreducible] noncomputable def kL (nd c b : Int) : List (Str × Option AV) := [(Str.ofString "node", some (.int nd)), (Str.ofString "cell", some (.int c)), (Str.ofString "base", some (.int b)), (Str.ofString "kept", some (.obj 10))]
noncomputable abbrev fK : Fx := ⟨walkC.cs, true⟩
noncomputable def kst : Stmt := stA walkC.body 0
noncomputable abbrev kσ (p : List Int) (o : Int) (ks : List AV) (Y : List AO) (nd c b : Int) : S := ⟨kS p o ks ++ Y, kL nd c b, kCl⟩
theorem k_body : walkC.body = [kst] := by kernel_rfl
theorem k_locs (nd c b : Int) : locs0 walkC.xs [.int nd, .int c, .int b, .obj 10] walkC.rest = kL nd c b := by kernel_rfl
theorem k_nd : (kCl.map (·.1)).Nodup := by decide +kernel
/-- a stack's cells -/
noncomputable def cut64 (p : List Int) (b : Int) : List Int := (p.drop (b - 63).toNat).take (b + 1 - (b - 63)).toNat
section
variable (d : Nat) (p : List Int) (o nd c b : Int) (ks : List AV) (Y : List AO)
theorem k_leaf : LBd (d + 11) fK [kst] (kσ p o ks Y nd c b) [.b true] = some (.next, ⟨kS p o (ks ++ [.obj (kS p o ks ++ Y ++ [AO.il (cut64 p b)]).length]) ++ Y ++ [.il (cut64 p b)] ++ [.tup [.int (p.getD (1024 + nd).toNat 0), .int (c - 256), .obj (kS p o ks ++ Y).length]], kL nd c b, kCl⟩, [],
    [InB p.length (1056 + nd), (p.getD (1056 + nd).toNat 0 == 0) = true, InB p.length (1024 + nd), p.length ≤ 60000, 0 ≤ b - 63 ∧ b - 63 ≤ b + 1 ∧ b + 1 ≤ (p.length : Int), ks.length ≤ 60000]) := by kernel_rfl
end
noncomputable def ke (i : Nat) : Stmt := stA (elseOf kst) i
noncomputable def exE (s : Stmt) : Expr := (sPt s).2.1
noncomputable def exP (s : Stmt) : Pos := (sPt s).2.2.2.2.2
section
variable (d : Nat) (p : List Int) (o nd c b : Int) (ks : List AV) (Y : List AO)
theorem k_node (p2 p3 p4 : List Int) (ks2 ks3 : List AV) (Y2 Y3 : List AO) : LBd (d + 11) fK [kst] (kσ p o ks Y nd c b) [.b false, .e (.val .none) (kσ p2 o ks Y nd c b), .e (.val .none) (kσ p3 o ks2 Y2 nd c b), .e (.val .none) (kσ p4 o ks3 Y3 nd c b)] = some (.next, kσ p4 o ks3 Y3 nd c b, [],
    [InB p.length (1056 + nd), (p.getD (1056 + nd).toNat 0 == 0) = false, InB p.length c, EvE pw K fK (d + 10) (exE (ke 1)) (kσ (p.set c.toNat nd) o ks Y nd c b) (.val .none) (kσ p2 o ks Y nd c b),
     EvE pw K fK (d + 10) (exE (ke 2)) (kσ p2 o ks Y nd c b) (.val .none) (kσ p3 o ks2 Y2 nd c b), EvE pw K fK (d + 10) (exE (ke 3)) (kσ p3 o ks2 Y2 nd c b) (.val .none) (kσ p4 o ks3 Y3 nd c b)]) := by kernel_rfl
theorem kc1 : exE (ke 1) = .Call (.Name (Str.ofString "way") (psOf (callF (exE (ke 1))))) (callAs (exE (ke 1))) [] (callP (exE (ke 1))) := by kernel_rfl
theorem kc2 : exE (ke 2) = .Call (.Name (Str.ofString "walk") (psOf (callF (exE (ke 2))))) (callAs (exE (ke 2))) [] (callP (exE (ke 2))) := by kernel_rfl
theorem kc3 : exE (ke 3) = .Call (.Name (Str.ofString "walk") (psOf (callF (exE (ke 3))))) (callAs (exE (ke 3))) [] (callP (exE (ke 3))) := by kernel_rfl
theorem kn1 : LXd d fK (.Name (Str.ofString "way") (psOf (callF (exE (ke 1))))) (kσ p o ks Y nd c b) [] = some (.obj 7, kσ p o ks Y nd c b, [], []) := by kernel_rfl
theorem kn2 : LXd d fK (.Name (Str.ofString "walk") (psOf (callF (exE (ke 2))))) (kσ p o ks Y nd c b) [] = some (.obj 9, kσ p o ks Y nd c b, [], []) := by kernel_rfl
theorem kn3 : LXd d fK (.Name (Str.ofString "walk") (psOf (callF (exE (ke 3))))) (kσ p o ks Y nd c b) [] = some (.obj 9, kσ p o ks Y nd c b, [], []) := by kernel_rfl
theorem ka1 : stArgs (LE (d + 9)) fK (callAs (exE (ke 1))) (kσ p o ks Y nd c b) [] = some ([.int (c - 1), .str (Str.ofString "deep")], kσ p o ks Y nd c b, [], []) := by kernel_rfl
theorem ka2 : stArgs (LE (d + 9)) fK (callAs (exE (ke 2))) (kσ p o ks Y nd c b) [] = some ([.int (p.getD (1056 + nd).toNat 0), .int (c - 3), .int b, .obj 10], kσ p o ks Y nd c b, [], [InB p.length (1056 + nd)]) := by kernel_rfl
theorem ka3 : stArgs (LE (d + 9)) fK (callAs (exE (ke 3))) (kσ p o ks Y nd c b) [] = some ([.int (p.getD (1088 + nd).toNat 0), .int c, .int b, .obj 10], kσ p o ks Y nd c b, [], [InB p.length (1088 + nd)]) := by kernel_rfl
theorem k_re : renOs [0, 1, 4, 5, 6, 7] (kS p o ks ++ Y) [0, 1, 4, 5, 6, 7] = some (wS p o) := by kernel_rfl
theorem k_ov (p' : List Int) (n : Nat) : over [0, 1, 4, 5, 6, 7] ((wS p' o).map (embO (back [0, 1, 4, 5, 6, 7] n))) 0 (kS p o ks) = kS p' o ks := by kernel_rfl
theorem k_o7 : (kS p o ks ++ Y)[7]? = some (.fn wayC wCl 6) := rfl
theorem k_o9 : (kS p o ks ++ Y)[9]? = some (.fn walkC kCl 8) := rfl
theorem k_o8 : (kS p o ks ++ Y)[8]? = some (.code walkC.qual) := rfl
end
section
variable {d : Nat} {p p' : List Int} {o nd c b : Int} {ks ks' : List AV} {Y Y' : List AO}
theorem k_way (hp : p.length = 1120) (hc : 2 ≤ c ∧ c < 1120) : EvE pw K fK (d + 10) (exE (ke 1)) (kσ p o ks Y nd c b) (.val .none) (kσ (wayP p (c - 1) (o + 61 + 2)) o ks Y nd c b) := by
  rw [kc1]
  obtain ⟨a1, a2⟩ := stArgs_ok (lawN_ok U4_ok (d + 9)) (ka1 d p o nd c b ks Y) g0
  have h : CallG pw K cdC (d + 9) [.obj 5, .int (c - 1), .str (Str.ofString "deep")] (wS p o) (.val .none) (wS (wayP p (c - 1) (o + 61 + 2)) o) := way_call (d := d + 1) (.inl rfl) (spt_deep o) hp (by lia)
  exact .callClo (d := d + 9) rfl (LXd_ok (kn1 (d + 9) p o nd c b ks Y) g0) a2 a1 (k_o7 p o ks Y) (h.frmY (objs := kS p o ks) (sel := [0, 1, 4, 5, 6, 7]) rfl (k_re p o ks Y) rfl rfl (fun _ => rfl) (k_ov p o ks _))
theorem k_rec2 (hi : InB p.length (1056 + nd)) (h : CallG pw K cdC (d + 9) [.obj 9, .int (get p (1056 + nd)), .int (c - 3), .int b, .obj 10] (kS p o ks ++ Y) (.val .none) (kS p' o ks' ++ Y')) : EvE pw K fK (d + 10) (exE (ke 2)) (kσ p o ks Y nd c b) (.val .none) (kσ p' o ks' Y' nd c b) := by
  rw [kc2]
  obtain ⟨a1, a2⟩ := stArgs_ok (lawN_ok U4_ok (d + 9)) (ka2 d p o nd c b ks Y) (gcons hi g0)
  exact .callClo (d := d + 9) rfl (LXd_ok (kn2 (d + 9) p o nd c b ks Y) g0) a2 a1 (k_o9 p o ks Y) h
theorem k_rec3 (hi : InB p.length (1088 + nd)) (h : CallG pw K cdC (d + 9) [.obj 9, .int (get p (1088 + nd)), .int c, .int b, .obj 10] (kS p o ks ++ Y) (.val .none) (kS p' o ks' ++ Y')) : EvE pw K fK (d + 10) (exE (ke 3)) (kσ p o ks Y nd c b) (.val .none) (kσ p' o ks' Y' nd c b) := by
  rw [kc3]
  obtain ⟨a1, a2⟩ := stArgs_ok (lawN_ok U4_ok (d + 9)) (ka3 d p o nd c b ks Y) (gcons hi g0)
  exact .callClo (d := d + 9) rfl (LXd_ok (kn3 (d + 9) p o nd c b ks Y) g0) a2 a1 (k_o9 p o ks Y) h
theorem k_call {σ' : List AO} {lo : List (Str × Option AV)} (hb : EvB pw K fK (d + 12) [kst] (kσ p o ks Y nd c b) .next ⟨σ', lo, kCl⟩) : CallG pw K cdC (d + 12) [.obj 9, .int nd, .int c, .int b, .obj 10] (kS p o ks ++ Y) (.val .none) σ' := by
  refine callC_of (F := walkC) (k := 9) (j := 8) (cl := kCl) (args := [.int nd, .int c, .int b, .obj 10]) (o := .next) (σ' := ⟨σ', lo, kCl⟩) walkC_ok (k_o9 p o ks Y) (k_o8 p o ks Y) k_nd rfl ?_ rfl rfl
  rw [k_body, k_locs]
  exact hb
end
/-- what kept refers to, and what lies there -/
noncomputable def refs : Nat → List It → List AV
  | _, [] => []
  | N, _ :: r => .obj (N + 1) :: refs (N + 2) r
noncomputable def Xs (b : Int) : Nat → List It → List AO
  | _, [] => []
  | N, it :: r => .il (cut64 it.p b) :: .tup [.int it.v, .int it.s, .obj N] :: Xs b (N + 2) r
theorem refs_app : ∀ (l r : List It) (N : Nat), refs N (l ++ r) = refs N l ++ refs (N + 2 * l.length) r
  | [], _, _ => rfl
  | _ :: l, r, N => by
    show _ :: refs (N + 2) (l ++ r) = _ :: (refs (N + 2) l ++ _)
    rw [refs_app, List.length_cons, show N + 2 + 2 * l.length = N + 2 * (l.length + 1) by lia]
theorem Xs_app (b : Int) : ∀ (l r : List It) (N : Nat), Xs b N (l ++ r) = Xs b N l ++ Xs b (N + 2 * l.length) r
  | [], _, _ => rfl
  | it :: l, r, N => by
    show _ :: _ :: Xs b (N + 2) (l ++ r) = _ :: _ :: (Xs b (N + 2) l ++ _)
    rw [Xs_app, List.length_cons, show N + 2 + 2 * l.length = N + 2 * (l.length + 1) by lia]
theorem refs_len : ∀ (l : List It) (N : Nat), (refs N l).length = l.length
  | [], _ => rfl
  | _ :: l, N => by show (refs (N + 2) l).length + 1 = _; rw [refs_len, List.length_cons]
theorem Xs_len (b : Int) : ∀ (l : List It) (N : Nat), (Xs b N l).length = 2 * l.length
  | [], _ => rfl
  | _ :: l, N => by show (Xs b (N + 2) l).length + 1 + 1 = _; rw [Xs_len, List.length_cons]; lia
theorem wk_cnt (o : Int) (t : Tr) (c : Int) (p : List Int) : (wk o t c p).1.length = t.lv.length := by rw [← wk_vals o t c p, List.length_map]
theorem kS_len (p : List Int) (o : Int) (ks : List AV) (Y : List AO) : (kS p o ks ++ Y).length = Y.length + 11 := rfl
theorem walk_call {o b : Int} (hb : 63 ≤ b ∧ b + 1 ≤ 1120) : ∀ (n : Nat) (t : Tr) (c : Int) (p : List Int) (ks : List AV) (Y : List AO), t.lv.length ≤ n + 1 → HasF (get p) t → p.length = 1120 → 3 * t.lv.length ≤ c → c < 1000 → ks.length + t.lv.length ≤ 1000 →
    CallG pw K cdC (3 * n + 12) [.obj 9, .int t.id, .int c, .int b, .obj 10] (kS p o ks ++ Y) (.val .none) (kS (wk o t c p).2 o (ks ++ refs (Y.length + 11) (wk o t c p).1) ++ (Y ++ Xs b (Y.length + 11) (wk o t c p).1))
  | n, .leaf i v, c, p, ks, Y, h1, h2, hp, h3, h4, h5 => by
    obtain ⟨⟨h6, h7, h8⟩, h9, h10⟩ := h2
    have g1 : InB p.length (1056 + (i : Int)) := ⟨by lia, by lia, by lia⟩
    have g2 : InB p.length (1024 + (i : Int)) := ⟨by lia, by lia, by lia⟩
    have e := k_call (LBd_ok (k_leaf (3 * n) p o i c b ks Y) (gcons g1 (gcons (beq_iff_eq.mpr h10) (gcons g2 (gcons (by lia) (gcons ⟨by lia, by lia, by lia⟩ (gcons (by lia) g0)))))))
    have e9 : p.getD (1024 + (i : Int)).toNat 0 = v := h9
    have e1 : (kS p o ks ++ Y ++ [AO.il (cut64 p b)]).length = Y.length + 11 + 1 := by rw [List.length_append, kS_len]; rfl
    rw [e9, e1, kS_len, List.append_assoc, List.append_assoc] at e
    exact e
  | n, .node i l r, c, p, ks, Y, h1, h2, hp, h3, h4, h5 => by
    have pl := l.lv_pos
    have pr := r.lv_pos
    have hlen : (Tr.node i l r).lv.length = l.lv.length + r.lv.length := List.length_append
    rw [hlen] at h1 h3 h5
    cases n with
    | zero => lia
    | succ n =>
      obtain ⟨⟨h6, h7⟩, h9, h10, h11, h12⟩ := h2
      have g1 : InB p.length (1056 + (i : Int)) := ⟨by lia, by lia, by lia⟩
      have g2 : InB p.length c := ⟨by lia, by lia, by lia⟩
      have nz : (p.getD (1056 + (i : Int)).toNat 0 == 0) = false := by
        have e : p.getD (1056 + (i : Int)).toNat 0 = l.id := h9
        rw [e, beq_eq_false_iff_ne]
        lia
      have l1 : (p.set c.toNat (i : Int)).length = 1120 := (List.length_set ..).trans hp
      have k1 : ∀ j : Int, c < j → get (wayP (p.set c.toNat (i : Int)) (c - 1) (o + 61 + 2)) j = get p j := fun j hj => by
        rw [wayP_keep (by lia) (by lia) (by lia), get_ne (by lia) (by lia) (by lia) (by lia)]
      have w1 : EvE pw K fK (3 * n + 3 + 10) (exE (ke 1)) (kσ (p.set c.toNat (i : Int)) o ks Y i c b) (.val .none) (kσ (wayP (p.set c.toNat (i : Int)) (c - 1) (o + 61 + 2)) o ks Y i c b) := k_way l1 (by lia)
      have l2 : (wayP (p.set c.toNat (i : Int)) (c - 1) (o + 61 + 2)).length = 1120 := (wayP_len ..).trans l1
      show CallG _ _ _ _ _ _ _ (kS (wk o r c (wk o l (c - 3) (wayP (p.set c.toNat (i : Int)) (c - 1) (o + 61 + 2))).2).2 o (ks ++ refs (Y.length + 11) ((wk o l (c - 3) (wayP (p.set c.toNat (i : Int)) (c - 1) (o + 61 + 2))).1 ++ (wk o r c (wk o l (c - 3) (wayP (p.set c.toNat (i : Int)) (c - 1) (o + 61 + 2))).2).1)) ++ (Y ++ Xs b (Y.length + 11) ((wk o l (c - 3) (wayP (p.set c.toNat (i : Int)) (c - 1) (o + 61 + 2))).1 ++ (wk o r c (wk o l (c - 3) (wayP (p.set c.toNat (i : Int)) (c - 1) (o + 61 + 2))).2).1)))
      generalize wayP (p.set c.toNat (i : Int)) (c - 1) (o + 61 + 2) = p2 at *
      have H2 : HasF (get p2) l := h11.keep fun j hj => k1 j (by lia)
      have c1 := walk_call (o := o) hb n l (c - 3) p2 ks Y (by lia) H2 l2 (by lia) (by lia) (by lia)
      have kk : ∀ j : Int, c < j → get (wk o l (c - 3) p2).2 j = get p j := fun j hj => by rw [wk_keep o l _ _ _ (by lia) (by lia) (by lia), k1 j hj]
      have l3 : (wk o l (c - 3) p2).2.length = 1120 := (wk_len ..).trans l2
      have n1 := wk_cnt o l (c - 3) p2
      generalize wk o l (c - 3) p2 = q at *
      obtain ⟨its1, p3⟩ := q
      dsimp only at c1 kk l3 n1 ⊢
      have e1 : get p2 (1056 + (i : Int)) = l.id := (k1 _ (by lia)).trans h9
      have e2 : get p3 (1088 + (i : Int)) = r.id := (kk _ (by lia)).trans h10
      have w2 : EvE pw K fK (3 * n + 3 + 10) (exE (ke 2)) (kσ p2 o ks Y i c b) (.val .none) (kσ p3 o (ks ++ refs (Y.length + 11) its1) (Y ++ Xs b (Y.length + 11) its1) i c b) := k_rec2 ⟨by lia, by lia, by lia⟩ (by rw [e1]; exact c1)
      have H3 : HasF (get p3) r := h12.keep fun j hj => kk j (by lia)
      have c2 := walk_call (o := o) hb n r c p3 (ks ++ refs (Y.length + 11) its1) (Y ++ Xs b (Y.length + 11) its1) (by lia) H3 l3 (by lia) (by lia) (by rw [List.length_append, refs_len]; lia)
      generalize wk o r c p3 = q at *
      obtain ⟨its2, p4⟩ := q
      dsimp only at c2 ⊢
      have e3 : (Y ++ Xs b (Y.length + 11) its1).length + 11 = Y.length + 11 + 2 * its1.length := by rw [List.length_append, Xs_len]; lia
      rw [e3, List.append_assoc ks, ← refs_app, List.append_assoc Y, ← Xs_app] at c2
      have w3 : EvE pw K fK (3 * n + 3 + 10) (exE (ke 3)) (kσ p3 o (ks ++ refs (Y.length + 11) its1) (Y ++ Xs b (Y.length + 11) its1) i c b) (.val .none) (kσ p4 o (ks ++ refs (Y.length + 11) (its1 ++ its2)) (Y ++ Xs b (Y.length + 11) (its1 ++ its2)) i c b) := k_rec3 ⟨by lia, by lia, by lia⟩ (by rw [e2]; exact c2)
      exact k_call (d := 3 * n + 3) (LBd_ok (k_node (3 * n + 3) p o i c b ks Y p2 p3 p4 _ _ _ _) (gcons g1 (gcons nz (gcons g2 (gcons w1 (gcons w2 (gcons w3 g0)))))))
@[irreducible] noncomputable def ln (ls : List (Option AV)) : List (Str × Option AV) := lcs (none :: ls ++ List.replicate (20 - ls.length) none)
noncomputable abbrev stL (cw ck cs cp cn cm ch cd : Option AV) (ps : List Pos) (os : List AO) (ls : List (Option AV)) : S := ⟨.cell cw :: .cell ck :: .cell cs :: .cell cp :: .cell cn :: .cell cm :: .cell ch :: .cell cd :: .tab ps :: os, ln ls, cs8⟩
inductive WkA : List (Option AV) → List (Option AV) → Prop
  | nil : WkA [] []
  | some {v w l l'} : WkV v w → WkA l l' → WkA (some v :: l) (some w :: l')
  | none {v l l'} : WkA l l' → WkA (v :: l) (none :: l')
theorem WkA.refl : ∀ {l : List (Option AV)}, WkA l l
  | [] => .nil
  | .some _ :: _ => .some .refl .refl
  | .none :: _ => .none .refl
theorem WkA.len {l l' : List (Option AV)} (h : WkA l l') : l.length = l'.length := by
  induction h with
  | nil => rfl
  | some _ _ ih => simp [ih]
  | none _ ih => simp [ih]
theorem WkA.app {l l' r : List (Option AV)} (h : WkA l l') : WkA (l ++ r) (l' ++ r) := by
  induction h with
  | nil => exact .refl
  | some q _ ih => exact .some q ih
  | none _ ih => exact .none ih
theorem WkA.zip {l l' : List (Option AV)} (h : WkA l l') : ∀ ns : List Str, WkLs (ns.zip l) (ns.zip l') := by
  induction h with
  | nil => intro ns; cases ns <;> exact .nil
  | some q _ ih =>
    intro ns
    cases ns with
    | nil => exact .nil
    | cons n ns => exact .some q (ih ns)
  | none _ ih =>
    intro ns
    cases ns with
    | nil => exact .nil
    | cons n ns => exact .none (ih ns)
theorem ln_wk {l l' : List (Option AV)} (h : WkA l l') : WkLs (ln l) (ln l') := by
  unfold ln lcs
  rw [h.len]
  exact WkA.zip (.none h.app) _
noncomputable def elE (e : Expr) : Expr := (ePt e).2.2.1.headD nE
noncomputable def p1 : CP := cpOf (elE (valE (lst 1)))
theorem p1e : elE (valE (lst 1)) = p1.e := by kernel_rfl
theorem p1ifs : p1.ifs = [] := by kernel_rfl
theorem p1it : plainIter p1.iter = true := by kernel_rfl
noncomputable def cs1 : List (Str × Nat) := [(Str.ofString "drawn", 7)]
noncomputable abbrev A0 (D : List Int) (X : List AO) (ls : List (Option AV)) : S := stL none none none none none none none (some (.obj 9)) [] (.il D :: X) ls
noncomputable def n0 (D : List Int) : Int := 1 + (D.getD (0 : Int).toNat 0).fmod 5
noncomputable def lf (D : List Int) (k : Int) : Int := 1 + (D.getD (5 + k).toNat 0).fmod 255
/-- the first list -/
noncomputable def L0 (D : List Int) : List Int := (rints 0 1 (n0 D).toNat).filterMap fun k => some (lf D k)
theorem s1i (D : List Int) : LXd 37 fL p1.iter (A0 D [] []) [] = some (.obj 10, A0 D [.rng 0 (n0 D) 1] [], [], [InB D.length 0, (5 : Int) ≠ 0]) := by kernel_rfl
theorem s1c (D : List Int) (X : List AO) : compOkB fL p1.scope p1.x cs1 (A0 D X []).cells = true := by kernel_rfl
theorem s1t (D : List Int) (k : Int) : LXd 37 (gOf fL p1.scope) p1.elt (sT (A0 D [.rng 0 (n0 D) 1] []).objs p1.x k cs1) [] = some (.int (lf D k), sT (A0 D [.rng 0 (n0 D) 1] []).objs p1.x k cs1, [], [InB D.length (5 + k), (255 : Int) ≠ 0]) := by kernel_rfl
theorem n0_bd (D : List Int) : 1 ≤ n0 D ∧ n0 D ≤ 5 := by
  have := fmod_lt (D.getD (0 : Int).toNat 0) (n := 5) (by decide)
  unfold n0
  lia
theorem mem_rints {k : Int} {n : Nat} (h : k ∈ rints 0 1 n) : 0 ≤ k ∧ k < n := by
  unfold rints at h
  obtain ⟨j, hj, rfl⟩ := List.mem_map.mp h
  rw [List.mem_range'] at hj
  lia
theorem rints_len (n : Nat) : (rints 0 1 n).length = n := by unfold rints; simp
theorem s1e (D : List Int) (hD : D.length = 10) : EvE pw K fL 38 (elE (valE (lst 1))) (A0 D [] []) (.obj 11) (A0 D [.rng 0 (n0 D) 1, .il (L0 D)] []) := by
  rw [p1e]
  have h := n0_bd D
  exact .compRI (i := 10) (n := (n0 D).toNat) (cs := cs1) (LXd_ok (s1i D) (gcons ⟨by lia, by lia, by lia⟩ (gcons (by decide) g0))) rfl (small_one (by lia) (by lia) (by lia) (by lia)) (by unfold Builtin.Range.rangeSize; simp; lia) (s1c D _) rfl (by lia)
    (fun k hk => turn_plain p1ifs (s1t D k) (gcons (by have := mem_rints hk; exact ⟨by lia, by lia, by lia⟩) (gcons (by decide) g0)) .refl) p1it
theorem s1k (D : List Int) : LSc (lst 1) (A0 D [] []) [.e (.obj 11) (A0 D [.rng 0 (n0 D) 1, .il (L0 D)] [])] [0, 1, 2, 3, 4, 5, 6, 7, 8, 9, 11, 12] = some (.next, A0 D [.il (L0 D), .list [.obj 10]] [none, some (.obj 11)], [EvE pw K fL 38 (elE (valE (lst 1))) (A0 D [] []) (.obj 11) (A0 D [.rng 0 (n0 D) 1, .il (L0 D)] [])]) := by kernel_rfl
theorem s1 (D : List Int) (hD : D.length = 10) : EvS pw K fL 40 (lst 1) (A0 D [] []) .next (A0 D [.il (L0 D), .list [.obj 10]] [none, some (.obj 11)]) := LSc_ok (s1k D) (gcons (s1e D hD) g0)
noncomputable def chO (D A : List Int) : Int := (D.getD (2 : Int).toNat 0).fmod (A.length : Int)
noncomputable abbrev A1 (D A : List Int) : S := A0 D [.il A, .list [.obj 10]] [none, some (.obj 11)]
noncomputable abbrev A2 (D A : List Int) (X : List AO) (u v : Option AV) : S := A0 D (.il A :: .list [.obj 10] :: X) [none, some (.obj 11), u, v]
theorem s2st : lst 2 = .Assign [.Tuple (tgs (lst 2)) (tgk (lst 2)) (tgp (lst 2))] (valE (lst 2)) (stp_ (lst 2)) := by kernel_rfl
theorem s2sw : swappedStores [.Tuple (tgs (lst 2)) (tgk (lst 2)) (tgp (lst 2))] (valE (lst 2)) (envOf fL.cs) = pure (some [Str.ofString "other", Str.ofString "change"]) := by kernel_rfl
theorem s2nc : notComp (valE (lst 2)) = true := by kernel_rfl
theorem s2v (D A : List Int) : LX (valE (lst 2)) (A1 D A) [] = some (.obj 13, A2 D A [.il A, .tup [.obj 12, .int (chO D A)]] none none, [], [A.length ≤ 60000, InB D.length 2, A.length < 2 ^ 62, (A.length : Int) ≠ 0]) := by kernel_rfl
theorem s2b (D A : List Int) : bindNs fL [Str.ofString "change", Str.ofString "other"] [.int (chO D A), .obj 12] (A2 D A [.il A, .tup [.obj 12, .int (chO D A)]] none none) = some (A2 D A [.il A, .tup [.obj 12, .int (chO D A)]] (some (.obj 12)) (some (.int (chO D A)))) := by kernel_rfl
theorem s2 (D A : List Int) (hD : D.length = 10) (h0 : 1 ≤ A.length) (h1 : A.length ≤ 5) : EvS pw K fL 40 (lst 2) (A1 D A) .next (A2 D A [.il A, .tup [.obj 12, .int (chO D A)]] (some (.obj 12)) (some (.int (chO D A)))) := by
  rw [s2st]
  exact .assignW2 (xs := [.obj 12, .int (chO D A)]) (names := [Str.ofString "other", Str.ofString "change"]) rfl (LX_ok (s2v D A) (gcons (by lia) (gcons ⟨by lia, by lia, by lia⟩ (gcons (by lia) (gcons (by lia) g0))))) (.told rfl) (s2b D A) rfl s2nc s2sw
noncomputable def kd (D : List Int) : Int := (D.getD (1 : Int).toNat 0).fmod 4
section
variable (D A : List Int) (c : Int)
theorem s3a : LS (lst 3) (A2 D A [.il A, .tup [.obj 12, .int c]] (some (.obj 12)) (some (.int c))) [.b true] = some (.next, A2 D A [.il (A.set c.toNat (256 - A.getD c.toNat 0)), .tup [.obj 12, .int c]] (some (.obj 12)) (some (.int c)), [], [InB D.length 1, (4 : Int) ≠ 0, (kd D == 0) = true, InB A.length c, InB A.length c]) := by kernel_rfl
theorem s3b : LS (lst 3) (A2 D A [.il A, .tup [.obj 12, .int c]] (some (.obj 12)) (some (.int c))) [.b false, .b true] = some (.next, A2 D A [.il (A ++ [1 + (D.getD (2 : Int).toNat 0).fmod 255]), .tup [.obj 12, .int c]] (some (.obj 12)) (some (.int c)), [], [InB D.length 1, (4 : Int) ≠ 0, (kd D == 0) = false, InB D.length 1, (4 : Int) ≠ 0, (kd D == 1) = true, InB D.length 2, (255 : Int) ≠ 0, A.length ≤ 60000]) := by kernel_rfl
theorem s3c : LS (lst 3) (A2 D A [.il A, .tup [.obj 12, .int c]] (some (.obj 12)) (some (.int c))) [.b false, .b false, .b true] = some (.next, A2 D A [.il A, .tup [.obj 12, .int c], .il (A.take (c + 1).toNat)] (some (.obj 14)) (some (.int c)), [], [InB D.length 1, (4 : Int) ≠ 0, (kd D == 0) = false, InB D.length 1, (4 : Int) ≠ 0, (kd D == 1) = false, InB D.length 1, (4 : Int) ≠ 0, (kd D == 3) = true, A.length ≤ 60000, 0 ≤ c + 1]) := by kernel_rfl
theorem s3d : LS (lst 3) (A2 D A [.il A, .tup [.obj 12, .int c]] (some (.obj 12)) (some (.int c))) [.b false, .b false, .b false] = some (.next, A2 D A [.il A, .tup [.obj 12, .int c]] (some (.obj 12)) (some (.int c)), [], [InB D.length 1, (4 : Int) ≠ 0, (kd D == 0) = false, InB D.length 1, (4 : Int) ≠ 0, (kd D == 1) = false, InB D.length 1, (4 : Int) ≠ 0, (kd D == 3) = false]) := by kernel_rfl
theorem s3s (B : List Int) (X : AO) : selOk (A1 D A).objs.length (A2 D A [.il B, X] (some (.obj 12)) (some (.int c))).objs.length (upto 13) = true := by kernel_rfl
theorem s3t (B : List Int) (X Z : AO) : selOk (A1 D A).objs.length (A2 D A [X, Z, .il B] (some (.obj 14)) (some (.int c))).objs.length (upto 12 ++ [14]) = true := by kernel_rfl
theorem s3r (B : List Int) (X : AO) : renS (upto 13) (A2 D A [.il B, X] (some (.obj 12)) (some (.int c))) = some (A2 D A [.il B] (some (.obj 12)) (some (.int c))) := by kernel_rfl
theorem s3q (B : List Int) (X Z : AO) : renS (upto 12 ++ [14]) (A2 D A [X, Z, .il B] (some (.obj 14)) (some (.int c))) = some (A2 D A [.il B] (some (.obj 12)) (some (.int c))) := by kernel_rfl
end
/-- the second list -/
noncomputable def L1 (D A : List Int) : List Int := if kd D = 0 then A.set (chO D A).toNat (256 - A.getD (chO D A).toNat 0) else if kd D = 1 then A ++ [1 + (D.getD (2 : Int).toNat 0).fmod 255] else if kd D = 3 then A.take (chO D A + 1).toNat else A
theorem s2_3 (D A : List Int) (hD : D.length = 10) (h0 : 1 ≤ A.length) (h1 : A.length ≤ 5) : EvB pw K fL 40 [lst 2, lst 3] (A1 D A) .next (A2 D A [.il (L1 D A)] (some (.obj 12)) (some (.int (chO D A)))) := by
  have t2 := s2 D A hD h0 h1
  have hc := fmod_lt (D.getD (2 : Int).toNat 0) (n := (A.length : Int)) (by lia)
  have i1 : InB D.length 1 := ⟨by lia, by lia, by lia⟩
  have i2 : InB D.length 2 := ⟨by lia, by lia, by lia⟩
  have n4 : (4 : Int) ≠ 0 := by decide
  have hl : A.length ≤ 60000 := by lia
  unfold L1
  have hc' : 0 ≤ chO D A ∧ chO D A < A.length := hc
  generalize chO D A = c at *
  have ic : InB A.length c := ⟨by lia, by lia, by lia⟩
  by_cases e0 : kd D = 0
  · rw [if_pos e0]
    exact (EvB.cons t2 (.cons (LS_ok (s3a D A c) (gcons i1 (gcons n4 (gcons (beq_iff_eq.mpr e0) (gcons ic (gcons ic g0)))))) .nil)).gc (s3s D A c _ _) (s3r D A c _ _) rfl
  rw [if_neg e0]
  have f0 := beq_eq_false_iff_ne.mpr e0
  by_cases e1 : kd D = 1
  · rw [if_pos e1]
    exact (EvB.cons t2 (.cons (LS_ok (s3b D A c) (gcons i1 (gcons n4 (gcons f0 (gcons i1 (gcons n4 (gcons (beq_iff_eq.mpr e1) (gcons i2 (gcons (by decide) (gcons hl g0)))))))))) .nil)).gc (s3s D A c _ _) (s3r D A c _ _) rfl
  rw [if_neg e1]
  have f1 := beq_eq_false_iff_ne.mpr e1
  by_cases e3 : kd D = 3
  · rw [if_pos e3]
    exact (EvB.cons t2 (.cons (LS_ok (s3c D A c) (gcons i1 (gcons n4 (gcons f0 (gcons i1 (gcons n4 (gcons f1 (gcons i1 (gcons n4 (gcons (beq_iff_eq.mpr e3) (gcons hl (gcons (by lia) g0)))))))))))) .nil)).gc (s3t D A c _ _ _) (s3q D A c _ _ _) rfl
  rw [if_neg e3]
  have f3 := beq_eq_false_iff_ne.mpr e3
  exact (EvB.cons t2 (.cons (LS_ok (s3d D A c) (gcons i1 (gcons n4 (gcons f0 (gcons i1 (gcons n4 (gcons f1 (gcons i1 (gcons n4 (gcons f3 g0)))))))))) .nil)).gc (s3s D A c _ _) (s3r D A c _ _) rfl
noncomputable abbrev A4 (D A B : List Int) (X : List AO) (ls : List (Option AV)) : S := A0 D (.il A :: .list [.obj 10, .obj 12] :: .il B :: X) (none :: some (.obj 11) :: none :: none :: ls)
theorem s4k (D A B : List Int) (c : Int) : LS (lst 4) (A2 D A [.il B] (some (.obj 12)) (some (.int c))) [] = some (.next, A0 D [.il A, .list [.obj 10, .obj 12], .il B] [none, some (.obj 11), some (.obj 12), some (.int c)], [], [1 ≤ 60000]) := by kernel_rfl
theorem s4 (D A B : List Int) (c : Int) : EvS pw K fL 40 (lst 4) (A2 D A [.il B] (some (.obj 12)) (some (.int c))) .next (A4 D A B [] []) :=
  (LS_ok (s4k D A B c) (gcons (by decide) g0)).wk .refl (ln_wk (.none (.some .refl (.none (.none .nil))))) rfl
noncomputable def org (D : List Int) : Int := 512 + (D.getD (3 : Int).toNat 0).fmod 256
theorem s5k (D A B : List Int) : LS (lst 5) (A4 D A B [] []) [] = some (.next, A4 D A B [] [some (.int (org D))], [], [InB D.length 3, (256 : Int) ≠ 0]) := by kernel_rfl
theorem s5 (D A B : List Int) (hD : D.length = 10) : EvS pw K fL 40 (lst 5) (A4 D A B [] []) .next (A4 D A B [] [some (.int (org D))]) := LS_ok (s5k D A B) (gcons ⟨by lia, by lia, by lia⟩ (gcons ne256 g0))
/-- the objects after a framed call -/
noncomputable def frameO (sel : List Nat) (objs objsS' : List AO) : List AO := over sel (objsS'.map (embO (back sel objs.length))) 0 objs ++ (objsS'.drop sel.length).map (embO (back sel objs.length))
theorem CallT.frm {d : Nat} {fa : Addr} {args argsB : List AV} {objs objsS objsS' objs' : List AO} {x x' : AV} {sel : List Nat} (h : CallT pw K d fa args objsS x objsS') (hs : selOk 0 objs.length sel = true) (hren : renOs sel objs sel = some objsS) (hargs : renVs sel argsB = some args) (hlen : Nat.ble sel.length objsS'.length = true)
    (hx : embV (back sel objs.length) x = x') (ho : frameO sel objs objsS' = objs') : CallT pw K d fa argsB objs x' objs' := by
  obtain ⟨h1, _, h3⟩ := selOk_of hs
  have := CallT.frame h h1 h3 hren hargs (Nat.le_of_ble_eq_true hlen)
  rw [hx] at this
  unfold frameO at ho
  rw [ho] at this
  exact this
theorem s6st : lst 6 = .Assign [.Tuple (tgs (lst 6)) (tgk (lst 6)) (tgp (lst 6))] (.Call (callF (valE (lst 6))) (callAs (valE (lst 6))) [] (callP (valE (lst 6)))) (stp_ (lst 6)) := by kernel_rfl
theorem s6sw : swappedStores [.Tuple (tgs (lst 6)) (tgk (lst 6)) (tgp (lst 6))] (.Call (callF (valE (lst 6))) (callAs (valE (lst 6))) [] (callP (valE (lst 6)))) (envOf fL.cs) = pure none := by kernel_rfl
theorem s6pf : plainFun (callF (valE (lst 6))) = true := by kernel_rfl
theorem s6f (σ : S) : LX (callF (valE (lst 6))) σ [] = some (.val (.ref 1532), σ, [], []) := by kernel_rfl
theorem s6keep (P : Params) : keepIn (K P) (.ref 1532) = true := by kernel_rfl
section
variable (D A B : List Int) (o : Int)
theorem s6a : stArgs (LE 39) fL (callAs (valE (lst 6))) (A4 D A B [] [some (.int o)]) [] = some ([.val (.ref 1525), .int o], A4 D A B [] [some (.int o)], [], []) := by kernel_rfl
noncomputable abbrev A5 (D A B : List Int) (o : Int) : S := A4 D A B [.il (rawO o), .dict (rawD o), .tup [.obj 13, .obj 14]] [some (.int o)]
noncomputable abbrev stM (cn cm ch : Option AV) (D A B : List Int) (o : Int) (X : List AO) (ls : List (Option AV)) : S := stL none none (some (.obj 14)) none cn cm ch (some (.obj 9)) [] (.il D :: .il A :: .list [.obj 10, .obj 12] :: .il B :: .il (rawO o) :: .dict (rawD o) :: X) (none :: some (.obj 11) :: none :: none :: some (.int o) :: some (.obj 13) :: ls)
theorem s6o : frameO [] (A4 D A B [] [some (.int o)]).objs [.il (rawO o), .dict (rawD o), .tup [.obj 0, .obj 1]] = (A5 D A B o).objs := by kernel_rfl
theorem s6g : tgt U4 fL (.Tuple (tgs (lst 6)) (tgk (lst 6)) (tgp (lst 6))) (.obj 15) (A5 D A B o) = some (stM none none none D A B o [.tup [.obj 13, .obj 14]] []) := by kernel_rfl
theorem s6s : selOk (A4 D A B [] [some (.int o)]).objs.length (stM none none none D A B o [.tup [.obj 13, .obj 14]] []).objs.length (upto 15) = true := by kernel_rfl
theorem s6r : renS (upto 15) (stM none none none D A B o [.tup [.obj 13, .obj 14]] []) = some (stM none none none D A B o [] []) := by kernel_rfl
end
theorem s6 (D A B : List Int) (o : Int) : EvS pw K fL 40 (lst 6) (A4 D A B [] [some (.int o)]) .next (stM none none none D A B o [] []) := by
  obtain ⟨a1, a2⟩ := stArgs_ok (lawN_ok U4_ok 39) (s6a D A B o) g0
  have hc : CallT pw K 39 1532 [.val (.ref 1525), .int o] (A4 D A B [] [some (.int o)]).objs (.obj 15) (A5 D A B o).objs := ((build_raw o).more (d' := 39) (by decide)).frm (sel := []) rfl rfl rfl rfl rfl (s6o D A B o)
  have hv : EvE pw K fL 40 (.Call (callF (valE (lst 6))) (callAs (valE (lst 6))) [] (callP (valE (lst 6)))) (A4 D A B [] [some (.int o)]) (.obj 15) (A5 D A B o) := .callFn rfl (LX_ok (s6f _) g0) a2 (call_eq s6pf) a1 s6keep hc
  have e : EvS pw K fL 40 (lst 6) (A4 D A B [] [some (.int o)]) .next (stM none none none D A B o [.tup [.obj 13, .obj 14]] []) := by
    rw [s6st]
    exact .assignT2 U4_ok hv (s6g D A B o) rfl s6sw
  exact e.gc (s6s D A B o) (s6r D A B o) rfl
noncomputable def mem0 (o : Int) : List Int := mulL [0] o ++ rawO o ++ mulL [0] (1120 - o - ((rawO o).length : Int))
theorem s7k (D A B : List Int) (o : Int) : LSc (lst 7) (stM none none none D A B o [] []) [] (upto 15 ++ [20]) = some (.next, stM none (some (.obj 15)) none D A B o [.il (mem0 o)] [],
  [o < 60000, 0 ≤ o, [(0 : Int)].length ≤ 64, (mulL [0] o).length + (rawO o).length ≤ 60000, (rawO o).length < 2 ^ 62, 1120 - o - ((rawO o).length : Int) < 60000, 0 ≤ 1120 - o - ((rawO o).length : Int), [(0 : Int)].length ≤ 64, (mulL [0] o ++ rawO o).length + (mulL [0] (1120 - o - ((rawO o).length : Int))).length ≤ 60000]) := by kernel_rfl
theorem mulL_len (l : List Int) (k : Int) : (mulL l k).length = k.toNat * l.length := by
  unfold mulL
  simp
theorem raw_len (o : Int) : (rawO o).length = 87 := rfl
theorem s7 (D A B : List Int) (o : Int) (h1 : 512 ≤ o) (h2 : o ≤ 767) : EvS pw K fL 40 (lst 7) (stM none none none D A B o [] []) .next (stM none (some (.obj 15)) none D A B o [.il (mem0 o)] []) := by
  have e1 : ((rawO o).length : Int) = 87 := rfl
  refine LSc_ok (s7k D A B o) (gcons (by lia) (gcons (by lia) (gcons (by decide) (gcons ?_ (gcons (by rw [raw_len]; decide) (gcons (by lia) (gcons (by lia) (gcons (by decide) (gcons ?_ g0)))))))))
  · rw [mulL_len, raw_len]; simp; lia
  · rw [List.length_append, mulL_len, mulL_len, e1, raw_len]; simp; lia
theorem mem0_len (o : Int) (h1 : 512 ≤ o) (h2 : o ≤ 767) : (mem0 o).length = 1120 := by
  unfold mem0
  rw [List.length_append, List.length_append, mulL_len, mulL_len, raw_len]
  simp
  lia
theorem wkOne {k : Int} : WkO (.list [.cint k]) (.il [k]) := fun _ _ _ ⟨vs, n, e, r⟩ => ⟨vs, n, e, by
  generalize vs.toList = l at r
  cases r with
  | cons h t =>
    cases t
    obtain ⟨t, rfl⟩ := h
    exact .cons _ _ .nil⟩
theorem s8k (D A B M : List Int) (o : Int) : LS (lst 8) (stM none (some (.obj 15)) none D A B o [.il M] []) [] = some (.next, stM (some (.obj 16)) (some (.obj 15)) none D A B o [.il M, .list [.cint 0]] [], [], []) := by kernel_rfl
theorem s8 (D A B M : List Int) (o : Int) : EvS pw K fL 40 (lst 8) (stM none (some (.obj 15)) none D A B o [.il M] []) .next (stM (some (.obj 16)) (some (.obj 15)) none D A B o [.il M, .il [0]] []) :=
  (LS_ok (s8k D A B M o) g0).wk (.cons .refl (.cons .refl (.cons .refl (.cons .refl (.cons .refl (.cons .refl (.cons .refl (.cons .refl (.cons .refl (.cons .refl (.cons .refl (.cons .refl (.cons .refl (.cons .refl (.cons .refl (.cons .refl (.cons wkOne .nil))))))))))))))))) .refl rfl
theorem DoesFrom.cons {c : Cx} {as0 : List Addr} {st : Stmt} {rest : List Stmt} {σ σ₁ σ' : S} {out : Out} (h1 : DoesFrom pw c as0 (exec st c.env) σ .next σ₁) (h2 : DoesFrom pw c as0 (execs rest c.env) σ₁ out σ') : DoesFrom pw c as0 (execs (st :: rest) c.env) σ out σ' := by
  intro bs os m s Q E R hq
  show wpAny _ _ (exec st c.env >>= fun f => match f with | .next => execs rest c.env | f => pure f) Q E s
  refine wpAny_bind (h1 bs os m s _ E R fun bs₁ os₁ m₁ v s₁ rv R₁ => ?_)
  obtain rfl : v = .next := rv
  exact h2 bs₁ os₁ m₁ s₁ Q E R₁ hq
/-- the frame of the law -/
structure LawC (c : Cx) (as0 : List Addr) : Prop where
  ok : Ok K fL 40 c
  env : ∃ L fa ca P cl0, c.env = envX lawF.name lawF.cs L fa (.ref ca) cl0 ∧ CodeHd c.h₀ ca P ∧ as0[8]? = some P
noncomputable def posD (s : Stmt) : Pos := (sPt s).2.2.2.2.2
noncomputable def defS (F : FnC) (p : Pos) : Stmt := .FunctionDef F.name F.params F.body [] none [] F.cs none F.name p
theorem d9 : lst 9 = defS hangC (posD (lst 9)) := by kernel_rfl
theorem d15 : lst 15 = defS wayC (posD (lst 15)) := by kernel_rfl
theorem d16 : lst 16 = defS walkC (posD (lst 16)) := by kernel_rfl
theorem d_dflt : ([hangC, wayC, walkC].map fun F => (F.params.defaults, F.params.kw_defaults)) = [hangC, wayC, walkC].map fun _ => ([], []) := by kernel_rfl
theorem d_ann (env : Env) : ([hangC, wayC, walkC].map fun F => annTrees F.params none env) = [hangC, wayC, walkC].map fun _ => [] := by kernel_rfl
theorem d_qual (L fa : Addr) (cd : Value) (cl0 : List (Str × Addr)) : ([hangC, wayC, walkC].map fun F => qualnameIn (envX lawF.name lawF.cs L fa cd cl0) F.name F.name) = [hangC, wayC, walkC].map fun F => F.qual := by kernel_rfl
theorem d_cell : ([hangC, wayC, walkC].map fun F => look F.name fL.cs.names) = [hangC, wayC, walkC].map fun _ => some .cell := by kernel_rfl
/-- a def in the law -/
theorem def_do {c : Cx} {as0 : List Addr} (H : LawC c as0) {F : FnC} (hF : F ∈ [hangC, wayC, walkC]) {pos : Pos} {σ : S} {ic : Nat} {ps : List Pos} {cl : List (Str × Nat)} {u : Option AV} (ht : σ.objs[8]? = some (.tab ps)) (hfr : freshP pos ps = true) (hc : closN σ.cells F.cs.names [] = some cl) (hl : look F.name σ.cells = some ic) (ho : σ.objs[ic]? = some (.cell u)) (hne : ic ≠ 8) :
    DoesFrom pw c as0 (exec (defS F pos) c.env) σ .next { σ with objs := (σ.objs.set 8 (.tab (pos :: ps)) ++ [AO.code F.qual, AO.fn F cl σ.objs.length]).set ic (.cell (some (.obj (σ.objs.length + 1)))) } := by
  obtain ⟨L, fa, ca, P, cl0, henv, C, hP⟩ := H.env
  have h1 := map_of d_dflt F hF
  exact DoesFrom.def (xs := F.xs) (rest := F.rest) rfl H.ok henv C hP ht hfr hc (congrArg (·.1) h1) (congrArg (·.2) h1) (fun env => map_of (d_ann env) F hF) (map_of (d_qual L fa (.ref ca) cl0) F hF) hl ho hne (map_of d_cell F hF)
theorem DoesFrom.to {c : Cx} {as0 : List Addr} {t : Sem Flow} {σ σ' σ'' : S} {out : Out} (h : DoesFrom pw c as0 t σ out σ') (e : σ' = σ'') : DoesFrom pw c as0 t σ out σ'' := e ▸ h
noncomputable def hClL : List (Str × Nat) := [(Str.ofString "number", 4), (Str.ofString "memory", 5), (Str.ofString "hang", 6)]
noncomputable abbrev stN (cw ck cp : Option AV) (ps : List Pos) (D A B : List Int) (o : Int) (M : List Int) (k : Int) (X : List AO) (pl : Option AV) (ls : List (Option AV)) : S := stL cw ck (some (.obj 14)) cp (some (.obj 16)) (some (.obj 15)) (some (.obj 18)) (some (.obj 9)) ps (.il D :: .il A :: .list [.obj 10, .obj 12] :: .il B :: .il (rawO o) :: .dict (rawD o) :: .il M :: .il [k] :: .code hangC.qual :: .fn hangC hClL 17 :: X) (pl :: some (.obj 11) :: none :: none :: some (.int o) :: some (.obj 13) :: ls)
noncomputable def ps9 : List Pos := [posD (lst 9)]
section
variable (D A B M : List Int) (o : Int)
theorem d9c : closN (stM (some (.obj 16)) (some (.obj 15)) none D A B o [.il M, .il [0]] []).cells hangC.cs.names [] = some hClL := by kernel_rfl
theorem d9l : look hangC.name (stM (some (.obj 16)) (some (.obj 15)) none D A B o [.il M, .il [0]] []).cells = some 6 := by kernel_rfl
theorem d9e : { (stM (some (.obj 16)) (some (.obj 15)) none D A B o [.il M, .il [0]] []) with objs := ((stM (some (.obj 16)) (some (.obj 15)) none D A B o [.il M, .il [0]] []).objs.set 8 (.tab [posD (lst 9)]) ++ [AO.code hangC.qual, AO.fn hangC hClL (stM (some (.obj 16)) (some (.obj 15)) none D A B o [.il M, .il [0]] []).objs.length]).set 6 (.cell (some (.obj ((stM (some (.obj 16)) (some (.obj 15)) none D A B o [.il M, .il [0]] []).objs.length + 1)))) } = stN none none none ps9 D A B o M 0 [] none [] := by kernel_rfl
end
theorem s9 {c : Cx} {as0 : List Addr} (H : LawC c as0) (D A B M : List Int) (o : Int) : DoesFrom pw c as0 (exec (lst 9) c.env) (stM (some (.obj 16)) (some (.obj 15)) none D A B o [.il M, .il [0]] []) .next (stN none none none ps9 D A B o M 0 [] none []) := by
  rw [d9]
  exact (def_do H (.head _) rfl rfl (d9c D A B M o) (d9l D A B M o) rfl (by decide)).to (d9e D A B M o)
noncomputable abbrev sN (D A B : List Int) (o : Int) (M : List Int) (k : Int) : S := stN none none none ps9 D A B o M k [] none []
section
variable (D A B M M' : List Int) (o k k' r : Int)
theorem s10c : valE (lst 10) = .Call (.Name (Str.ofString "hang") (psOf (callF (valE (lst 10))))) (callAs (valE (lst 10))) [] (callP (valE (lst 10))) := by kernel_rfl
theorem s11c : valE (lst 11) = .Call (.Name (Str.ofString "hang") (psOf (callF (valE (lst 11))))) (callAs (valE (lst 11))) [] (callP (valE (lst 11))) := by kernel_rfl
theorem s10n : LXd 38 fL (.Name (Str.ofString "hang") (psOf (callF (valE (lst 10))))) (sN D A B o M k) [] = some (.obj 18, sN D A B o M k, [], []) := by kernel_rfl
theorem s11n : LXd 38 fL (.Name (Str.ofString "hang") (psOf (callF (valE (lst 11))))) (sN D A B o M k) [] = some (.obj 18, sN D A B o M k, [], []) := by kernel_rfl
theorem s10a : stArgs (LE 38) fL (callAs (valE (lst 10))) (sN D A B o M k) [] = some ([.obj 10, .int (D.getD (3 : Int).toNat 0)], sN D A B o M k, [], [InB D.length 3]) := by kernel_rfl
theorem s11a : stArgs (LE 38) fL (callAs (valE (lst 11))) (sN D A B o M k) [] = some ([.obj 12, .int (D.getD (4 : Int).toNat 0)], sN D A B o M k, [], [InB D.length 4]) := by kernel_rfl
theorem s10r : renOs [4, 5, 6, 16, 15, 17, 18, 10] (sN D A B o M k).objs [4, 5, 6, 16, 15, 17, 18, 10] = some (hS k M A) := by kernel_rfl
theorem s11r : renOs [4, 5, 6, 16, 15, 17, 18, 12] (sN D A B o M k).objs [4, 5, 6, 16, 15, 17, 18, 12] = some (hS k M B) := by kernel_rfl
theorem s10o : over [4, 5, 6, 16, 15, 17, 18, 10] ((hS k' M' A).map (embO (back [4, 5, 6, 16, 15, 17, 18, 10] 19))) 0 (sN D A B o M k).objs ++ ((hS k' M' A).drop 8).map (embO (back [4, 5, 6, 16, 15, 17, 18, 10] 19)) = (sN D A B o M' k').objs := by kernel_rfl
theorem s11o : over [4, 5, 6, 16, 15, 17, 18, 12] ((hS k' M' B).map (embO (back [4, 5, 6, 16, 15, 17, 18, 12] 19))) 0 (sN D A B o M k).objs ++ ((hS k' M' B).drop 8).map (embO (back [4, 5, 6, 16, 15, 17, 18, 12] 19)) = (sN D A B o M' k').objs := by kernel_rfl
theorem s10k : LS (lst 10) (sN D A B o M k) [.e (.int r) (sN D A B o M' k')] = some (.next, sN D A B o (M'.set (20 : Int).toNat r) k', [], [EvE pw K fL 39 (valE (lst 10)) (sN D A B o M k) (.int r) (sN D A B o M' k'), InB M'.length 20]) := by kernel_rfl
theorem s11k : LS (lst 11) (sN D A B o M k) [.e (.int r) (sN D A B o M' k')] = some (.next, sN D A B o (M'.set (21 : Int).toNat r) k', [], [EvE pw K fL 39 (valE (lst 11)) (sN D A B o M k) (.int r) (sN D A B o M' k'), InB M'.length 21]) := by kernel_rfl
end
section
variable {D A B M M' : List Int} {o k k' r : Int}
theorem s10 (hD : D.length = 10) (hM : 21 < M'.length) (h : CallG pw K cdC 38 [.obj 6, .obj 7, .int (D.getD (3 : Int).toNat 0)] (hS k M A) (.int r) (hS k' M' A)) : EvS pw K fL 40 (lst 10) (sN D A B o M k) .next (sN D A B o (M'.set (20 : Int).toNat r) k') := by
  refine LS_ok (s10k D A B M M' o k k' r) (gcons ?_ (gcons ⟨by lia, by lia, by lia⟩ g0))
  rw [s10c]
  obtain ⟨a1, a2⟩ := stArgs_ok (lawN_ok U4_ok 38) (s10a D A B M o k) (gcons ⟨by lia, by lia, by lia⟩ g0)
  exact .callClo (d := 38) rfl (LXd_ok (s10n D A B M o k) g0) a2 a1 rfl (h.frm (sel := [4, 5, 6, 16, 15, 17, 18, 10]) rfl (s10r D A B M o k) rfl rfl rfl (s10o D A B M M' o k k'))
theorem s11 (hD : D.length = 10) (hM : 21 < M'.length) (h : CallG pw K cdC 38 [.obj 6, .obj 7, .int (D.getD (4 : Int).toNat 0)] (hS k M B) (.int r) (hS k' M' B)) : EvS pw K fL 40 (lst 11) (sN D A B o M k) .next (sN D A B o (M'.set (21 : Int).toNat r) k') := by
  refine LS_ok (s11k D A B M M' o k k' r) (gcons ?_ (gcons ⟨by lia, by lia, by lia⟩ g0))
  rw [s11c]
  obtain ⟨a1, a2⟩ := stArgs_ok (lawN_ok U4_ok 38) (s11a D A B M o k) (gcons ⟨by lia, by lia, by lia⟩ g0)
  exact .callClo (d := 38) rfl (LXd_ok (s11n D A B M o k) g0) a2 a1 rfl (h.frm (sel := [4, 5, 6, 16, 15, 17, 18, 12]) rfl (s11r D A B M o k) rfl rfl rfl (s11o D A B M M' o k k'))
end
noncomputable abbrev sS (D A B : List Int) (o : Int) (M : List Int) (k : Int) (X : List AO) (u : Option AV) : S := stN none none none ps9 D A B o M k X none [some (.int (spt (Str.ofString "begin") o - 1)), u]
theorem s12k (D A B M : List Int) (o k : Int) : LS (lst 12) (sN D A B o M k) [] = some (.next, sS D A B o M k [] none, [], []) := by kernel_rfl
theorem s12 (D A B M : List Int) (o k : Int) : EvS pw K fL 40 (lst 12) (sN D A B o M k) .next (sS D A B o M k [] none) := LS_ok (s12k D A B M o k) g0
noncomputable def s13b (i : Nat) : Stmt := stA (bodyOf (lst 13)) i
noncomputable def t13 (i : Nat) : Expr := match (tgs (s13b 0)).drop i with
  | e :: _ => e
  | [] => .Constant .none 0 default
theorem s13st : lst 13 = .For (targetOf (lst 13)) (iterOf (lst 13)) [s13b 0, s13b 1] [] (posOfS (lst 13)) := by kernel_rfl
theorem s13tg : targetOf (lst 13) = .Name (Str.ofString "which") (psOf (targetOf (lst 13))) := by kernel_rfl
theorem s13pi : plainIter (iterOf (lst 13)) = true := by kernel_rfl
theorem s13b0 : s13b 0 = .Assign [.Tuple [.Subscript (subV (t13 0)) (subS (t13 0)) (subP (t13 0)), .Subscript (subV (t13 1)) (subS (t13 1)) (subP (t13 1))] (tgk (s13b 0)) (tgp (s13b 0))] (valE (s13b 0)) (stp_ (s13b 0)) := by kernel_rfl
theorem s13sw : swappedStores [.Tuple [.Subscript (subV (t13 0)) (subS (t13 0)) (subP (t13 0)), .Subscript (subV (t13 1)) (subS (t13 1)) (subP (t13 1))] (tgk (s13b 0)) (tgp (s13b 0))] (valE (s13b 0)) (envOf fL.cs) = pure none := by kernel_rfl
theorem s13nc : notComp (valE (s13b 0)) = true := by kernel_rfl
section
variable (D A B M : List Int) (o k w : Int) (X : AO) (Y : List AO)
noncomputable abbrev st13 (o : Int) : List AO := [.tup [.int ((spt (Str.ofString "begin") o - 1).fdiv 256), .int ((spt (Str.ofString "begin") o - 1).fmod 256)]]
theorem s13i : LX (iterOf (lst 13)) (sS D A B o M k [] none) [] = some (.obj 19, sS D A B o M k [.rng 0 2 1] none, [], []) := by kernel_rfl
theorem s13t (v : Option AV) : tgt U4 fL (targetOf (lst 13)) (.int w) (sS D A B o M k [X] v) = some (sS D A B o M k [X] (some (.int w))) := by kernel_rfl
theorem s13v : LX (valE (s13b 0)) (sS D A B o M k [X] (some (.int w))) [] = some (.obj 20, sS D A B o M k (X :: st13 o) (some (.int w)), [], [(256 : Int) ≠ 0, Builtin.divisionGoesByPylong (spt (Str.ofString "begin") o - 1) 256 = false, (256 : Int) ≠ 0]) := by kernel_rfl
theorem s13a0 : LX (subV (t13 0)) (sS D A B o M k (X :: Y) (some (.int w))) [] = some (.obj 15, sS D A B o M k (X :: Y) (some (.int w)), [], []) := by kernel_rfl
theorem s13c0 : LX (subS (t13 0)) (sS D A B o M k (X :: Y) (some (.int w))) [] = some (.int (447 - 64 * w), sS D A B o M k (X :: Y) (some (.int w)), [], [IntMulOk 64 w]) := by kernel_rfl
theorem s13a1 : LX (subV (t13 1)) (sS D A B o M k (X :: Y) (some (.int w))) [] = some (.obj 15, sS D A B o M k (X :: Y) (some (.int w)), [], []) := by kernel_rfl
theorem s13c1 : LX (subS (t13 1)) (sS D A B o M k (X :: Y) (some (.int w))) [] = some (.int (446 - 64 * w), sS D A B o M k (X :: Y) (some (.int w)), [], [IntMulOk 64 w]) := by kernel_rfl
theorem s13d : LS (s13b 1) (sS D A B o M k (X :: Y) (some (.int w))) [] = some (.next, sS D A B o (M.set (16 + w).toNat (189 - 64 * w)) k (X :: Y) (some (.int w)), [], [IntMulOk 64 w, InB M.length (16 + w)]) := by kernel_rfl
theorem s13s : selOk (sS D A B o M k [X] (some (.int w))).objs.length (sS D A B o M k (X :: st13 o) (some (.int w))).objs.length (upto 20) = true := by kernel_rfl
theorem s13r (n : Int) : renS (upto 20) (sS D A B o M k (.rng 0 n 1 :: st13 o) (some (.int w))) = some (sS D A B o M k [.rng 0 n 1] (some (.int w))) := by kernel_rfl
theorem s13z (n : Int) : renS (upto 19) (sS D A B o M k [.rng 0 n 1] none) = some (sS D A B o M k [] none) := by kernel_rfl
theorem s13y (n : Int) : selOk (sS D A B o M k [] none).objs.length (sS D A B o M k [.rng 0 n 1] none).objs.length (upto 19) = true := by kernel_rfl
end
theorem mulOk64 (b : Int) : IntMulOk 64 b := IntMulOk.of_left (by decide +kernel)
theorem spt_begin (o : Int) : spt (Str.ofString "begin") o = o + 37 := (show spt (Str.ofString "begin") o = _ by kernel_rfl).trans (sp_begin o)
/-- the first return address of a stack, and its place -/
noncomputable def stk (o : Int) (M : List Int) (w : Int) : List Int := ((M.set (447 - 64 * w).toNat ((o + 36) / 256)).set (446 - 64 * w).toNat ((o + 36) % 256)).set (16 + w).toNat (189 - 64 * w)
theorem stk_len (o : Int) (M : List Int) (w : Int) : (stk o M w).length = M.length := by unfold stk; rw [List.length_set, List.length_set, List.length_set]
theorem st_eq (o : Int) : spt (Str.ofString "begin") o - 1 = o + 36 := by rw [spt_begin]; lia
section
variable {D A B M : List Int} {o k w : Int}
theorem s13body (hM : M.length = 1120) (hw : 0 ≤ w ∧ w ≤ 1) (n : Int) : EvB pw K fL 40 [s13b 0, s13b 1] (sS D A B o M k [.rng 0 n 1] (some (.int w))) .next (sS D A B o (stk o M w) k (.rng 0 n 1 :: st13 o) (some (.int w))) := by
  have m64 := mulOk64 w
  have t0 : EvAs pw K fL 40 (.Subscript (subV (t13 0)) (subS (t13 0)) (subP (t13 0))) (.int ((spt (Str.ofString "begin") o - 1).fdiv 256)) (sS D A B o M k (.rng 0 n 1 :: st13 o) (some (.int w))) (sS D A B o (M.set (447 - 64 * w).toNat ((spt (Str.ofString "begin") o - 1).fdiv 256)) k (.rng 0 n 1 :: st13 o) (some (.int w))) :=
    .subI (j := 15) (xs := M) (LX_ok (s13a0 D A B M o k w _ _) g0) (LX_ok (s13c0 D A B M o k w _ _) (gcons m64 g0)) rfl rfl rfl ⟨by lia, by lia, by lia⟩
  have t1 : EvAs pw K fL 40 (.Subscript (subV (t13 1)) (subS (t13 1)) (subP (t13 1))) (.int ((spt (Str.ofString "begin") o - 1).fmod 256)) (sS D A B o (M.set (447 - 64 * w).toNat ((spt (Str.ofString "begin") o - 1).fdiv 256)) k (.rng 0 n 1 :: st13 o) (some (.int w))) (sS D A B o ((M.set (447 - 64 * w).toNat ((spt (Str.ofString "begin") o - 1).fdiv 256)).set (446 - 64 * w).toNat ((spt (Str.ofString "begin") o - 1).fmod 256)) k (.rng 0 n 1 :: st13 o) (some (.int w))) :=
    .subI (j := 15) (xs := M.set (447 - 64 * w).toNat ((spt (Str.ofString "begin") o - 1).fdiv 256)) (LX_ok (s13a1 D A B _ o k w _ _) g0) (LX_ok (s13c1 D A B _ o k w _ _) (gcons m64 g0)) rfl rfl rfl ⟨by lia, by rw [List.length_set]; lia, by lia⟩
  have e : EvS pw K fL 40 (s13b 0) (sS D A B o M k [.rng 0 n 1] (some (.int w))) .next (sS D A B o ((M.set (447 - 64 * w).toNat ((spt (Str.ofString "begin") o - 1).fdiv 256)).set (446 - 64 * w).toNat ((spt (Str.ofString "begin") o - 1).fmod 256)) k (.rng 0 n 1 :: st13 o) (some (.int w))) := by
    rw [s13b0]
    exact .assignT (LX_ok (s13v D A B M o k w _) (gcons ne256 (gcons (np256 _) (gcons ne256 g0)))) (.tuple (.told rfl) (.cons rfl t0 (.cons rfl t1 .nil))) (fun _ => by unfold swapsWithSole; exact swaps_plain s13nc) fun env he => (swap_env he).trans s13sw
  have e2 := LS_ok (s13d D A B ((M.set (447 - 64 * w).toNat ((spt (Str.ofString "begin") o - 1).fdiv 256)).set (446 - 64 * w).toNat ((spt (Str.ofString "begin") o - 1).fmod 256)) o k w (.rng 0 n 1) (st13 o)) (gcons m64 (gcons ⟨by lia, by rw [List.length_set, List.length_set]; lia, by lia⟩ g0))
  have q := EvB.cons e (.cons e2 .nil)
  unfold stk
  rw [fd_of (st_eq o), fm_of (st_eq o)] at q
  exact q
theorem s13a (hM : M.length = 1120) : EvS pw K fL 40 (lst 13) (sS D A B o M k [] none) .next (sS D A B o (stk o (stk o M 0) 1) k [.rng 0 2 1] (some (.int 1))) := by
  rw [s13st, s13tg]
  have b0 := s13body (D := D) (A := A) (B := B) (M := M) (o := o) (k := k) (w := 0) hM (by decide) 2
  have b1 := s13body (D := D) (A := A) (B := B) (M := stk o M 0) (o := o) (k := k) (w := 1) ((stk_len ..).trans hM) (by decide) 2
  have t0 : EvAs pw K fL 40 (targetOf (lst 13)) (.int 0) (sS D A B o M k [.rng 0 2 1] none) (sS D A B o M k [.rng 0 2 1] (some (.int 0))) := tgt_ok U4_ok (s13t D A B M o k 0 (.rng 0 2 1) none)
  have t1 : EvAs pw K fL 40 (targetOf (lst 13)) (.int 1) (sS D A B o (stk o M 0) k [.rng 0 2 1] (some (.int 0))) (sS D A B o (stk o M 0) k [.rng 0 2 1] (some (.int 1))) := tgt_ok U4_ok (s13t D A B (stk o M 0) o k 1 (.rng 0 2 1) (some (.int 0)))
  rw [s13tg] at t0 t1
  refine .forRG (n := 2) (i := 19) (LX_ok (s13i D A B M o k) g0) rfl (small_one (by decide) (by decide) (by decide) (by decide)) (by decide) ?_ (plainIter_of s13pi)
  exact .nextG trivial t0 b0 (.inl rfl) (s13s D A B _ o k 0 (.rng 0 2 1)) (s13r D A B _ o k 0 2) (.nextG trivial t1 b1 (.inl rfl) (s13s D A B _ o k 1 (.rng 0 2 1)) (s13r D A B _ o k 1 2) (.nil trivial))
theorem s13 (hM : M.length = 1120) : EvS pw K fL 40 (lst 13) (sS D A B o M k [] none) .next (sS D A B o (stk o (stk o M 0) 1) k [] none) := by
  have h : EvS pw K fL 40 (lst 13) (sS D A B o M k [] none) .next (sS D A B o (stk o (stk o M 0) 1) k [.rng 0 2 1] none) := (s13a hM).wk .refl (ln_wk (.none (.some .refl (.none (.none (.some .refl (.some .refl (.some .refl (.none .nil))))))))) rfl
  exact h.gc (s13y D A B M o k 2) (s13z D A B _ o k 2) rfl
end
theorem s14k (D A B M : List Int) (o k : Int) : LS (lst 14) (sS D A B o M k [] none) [] = some (.next, stN none none (some (.obj 19)) ps9 D A B o M k [.il M] none [some (.int (spt (Str.ofString "begin") o - 1)), none], [], [M.length ≤ 60000]) := by kernel_rfl
noncomputable def wClL : List (Str × Nat) := [(Str.ofString "spots", 2), (Str.ofString "plain", 3)]
noncomputable def kClL : List (Str × Nat) := [(Str.ofString "way", 0), (Str.ofString "walk", 1), (Str.ofString "plain", 3)]
noncomputable abbrev stW (cw ck : Option AV) (ps : List Pos) (D A B : List Int) (o : Int) (M : List Int) (k : Int) (P : List Int) (X : List AO) (pl : Option AV) (ls : List (Option AV)) : S := stN cw ck (some (.obj 19)) ps D A B o M k (.il P :: X) pl ls
noncomputable def ps15 : List Pos := [posD (lst 15), posD (lst 9)]
noncomputable def ps16 : List Pos := [posD (lst 16), posD (lst 15), posD (lst 9)]
theorem s14 (D A B M : List Int) (o k : Int) (hM : M.length = 1120) : EvS pw K fL 40 (lst 14) (sS D A B o M k [] none) .next (stW none none ps9 D A B o M k M [] none [none, none]) :=
  (LS_ok (s14k D A B M o k) (gcons (by lia) g0)).wk .refl (ln_wk (.none (.some .refl (.none (.none (.some .refl (.some .refl (.none (.none .nil))))))))) rfl
section
variable (D A B M P : List Int) (o k : Int)
theorem d15c : closN (stW none none ps9 D A B o M k P [] none [none, none]).cells wayC.cs.names [] = some wClL := by kernel_rfl
theorem d15l : look wayC.name (stW none none ps9 D A B o M k P [] none [none, none]).cells = some 0 := by kernel_rfl
theorem d15f : freshP (posD (lst 15)) ps9 = true := by kernel_rfl
theorem d15e : { (stW none none ps9 D A B o M k P [] none [none, none]) with objs := ((stW none none ps9 D A B o M k P [] none [none, none]).objs.set 8 (.tab (posD (lst 15) :: ps9)) ++ [AO.code wayC.qual, AO.fn wayC wClL (stW none none ps9 D A B o M k P [] none [none, none]).objs.length]).set 0 (.cell (some (.obj ((stW none none ps9 D A B o M k P [] none [none, none]).objs.length + 1)))) } = stW (some (.obj 21)) none ps15 D A B o M k P [.code wayC.qual, .fn wayC wClL 20] none [none, none] := by kernel_rfl
theorem d16c (X : List AO) : closN (stW (some (.obj 21)) none ps15 D A B o M k P X none [none, none]).cells walkC.cs.names [] = some kClL := by kernel_rfl
theorem d16l (X : List AO) : look walkC.name (stW (some (.obj 21)) none ps15 D A B o M k P X none [none, none]).cells = some 1 := by kernel_rfl
theorem d16f : freshP (posD (lst 16)) ps15 = true := by kernel_rfl
noncomputable abbrev stP (D A B : List Int) (o : Int) (M : List Int) (k : Int) (P : List Int) (X : List AO) (pl : Option AV) (ls : List (Option AV)) : S := stW (some (.obj 21)) (some (.obj 23)) ps16 D A B o M k P (.code wayC.qual :: .fn wayC wClL 20 :: .code walkC.qual :: .fn walkC kClL 22 :: X) pl ls
theorem d16e : { (stW (some (.obj 21)) none ps15 D A B o M k P [.code wayC.qual, .fn wayC wClL 20] none [none, none]) with objs := ((stW (some (.obj 21)) none ps15 D A B o M k P [.code wayC.qual, .fn wayC wClL 20] none [none, none]).objs.set 8 (.tab (posD (lst 16) :: ps15)) ++ [AO.code walkC.qual, AO.fn walkC kClL (stW (some (.obj 21)) none ps15 D A B o M k P [.code wayC.qual, .fn wayC wClL 20] none [none, none]).objs.length]).set 1 (.cell (some (.obj ((stW (some (.obj 21)) none ps15 D A B o M k P [.code wayC.qual, .fn wayC wClL 20] none [none, none]).objs.length + 1)))) } = stP D A B o M k P [] none [none, none] := by kernel_rfl
end
theorem s15 {c : Cx} {as0 : List Addr} (H : LawC c as0) (D A B M P : List Int) (o k : Int) : DoesFrom pw c as0 (exec (lst 15) c.env) (stW none none ps9 D A B o M k P [] none [none, none]) .next (stW (some (.obj 21)) none ps15 D A B o M k P [.code wayC.qual, .fn wayC wClL 20] none [none, none]) := by
  rw [d15]
  exact (def_do H (.tail _ (.head _)) rfl d15f (d15c D A B M P o k) (d15l D A B M P o k) rfl (by decide)).to (d15e D A B M P o k)
theorem s16 {c : Cx} {as0 : List Addr} (H : LawC c as0) (D A B M P : List Int) (o k : Int) : DoesFrom pw c as0 (exec (lst 16) c.env) (stW (some (.obj 21)) none ps15 D A B o M k P [.code wayC.qual, .fn wayC wClL 20] none [none, none]) .next (stP D A B o M k P [] none [none, none]) := by
  rw [d16]
  exact (def_do H (.tail _ (.tail _ (.head _))) rfl d16f (d16c D A B M P o k _) (d16l D A B M P o k _) rfl (by decide)).to (d16e D A B M P o k)
noncomputable abbrev sW (D A B : List Int) (o : Int) (M : List Int) (k : Int) (P : List Int) (p : Int) : S := stP D A B o M k P [] none [none, none, some (.int p)]
theorem s17k (D A B M P : List Int) (o k : Int) : LS (lst 17) (stP D A B o M k P [] none [none, none]) [] = some (.next, stP D A B o M k P [] none [none, none, some (.cint 0)], [], []) := by kernel_rfl
theorem s17 (D A B M P : List Int) (o k : Int) : EvS pw K fL 40 (lst 17) (stP D A B o M k P [] none [none, none]) .next (sW D A B o M k P (0 : Nat)) :=
  (LS_ok (s17k D A B M P o k) g0).wk .refl (ln_wk (.none (.some .refl (.none (.none (.some .refl (.some .refl (.none (.none (.some .intC .nil)))))))))) rfl
section
variable (D A B M P : List Int) (o k p : Int)
theorem w18t : LT (testOf (lst 18)) (sW D A B o M k P p) [.b true, .b true, .b true] = some (true, sW D A B o M k P p, [], [A.length < 2 ^ 62, decide (p < (A.length : Int)) = true, B.length < 2 ^ 62, decide (p < (B.length : Int)) = true, InB A.length p, InB B.length p, (A.getD p.toNat 0 == B.getD p.toNat 0) = true]) := by kernel_rfl
theorem w18f : LT (testOf (lst 18)) (sW D A B o M k P p) [.b true, .b true, .b false] = some (false, sW D A B o M k P p, [], [A.length < 2 ^ 62, decide (p < (A.length : Int)) = true, B.length < 2 ^ 62, decide (p < (B.length : Int)) = true, InB A.length p, InB B.length p, (A.getD p.toNat 0 == B.getD p.toNat 0) = false]) := by kernel_rfl
theorem w18g : LT (testOf (lst 18)) (sW D A B o M k P p) [.b true, .b false] = some (false, sW D A B o M k P p, [], [A.length < 2 ^ 62, decide (p < (A.length : Int)) = true, B.length < 2 ^ 62, decide (p < (B.length : Int)) = false]) := by kernel_rfl
theorem w18h : LT (testOf (lst 18)) (sW D A B o M k P p) [.b false] = some (false, sW D A B o M k P p, [], [A.length < 2 ^ 62, decide (p < (A.length : Int)) = false]) := by kernel_rfl
theorem w18b : LB (bodyOf (lst 18)) (sW D A B o M k P p) [] = some (.next, sW D A B o M k P (p + 1), [], []) := by kernel_rfl
end
theorem w18w (D A B M P : List Int) (o k : Int) (hA : A.length ≤ 100) (hB : B.length ≤ 100) : ∀ (n p : Nat), A.length ≤ p + n → While pw K fL 40 (testOf (lst 18)) (bodyOf (lst 18)) n (sW D A B o M k P p) .next (sW D A B o M k P ((p + agr (A.drop p) (B.drop p) : Nat) : Int)) := by
  intro n
  induction n with
  | zero =>
    intro p hn
    rw [List.drop_eq_nil_of_le (by lia)]
    have e : agr [] (B.drop p) = 0 := by cases B.drop p <;> rfl
    rw [e]
    exact .done (LT_ok (w18h D A B M P o k p) (gcons (by lia) (gcons (decide_eq_false (by lia)) g0)))
  | succ n ih =>
    intro p hn
    have l1 : A.length < 2 ^ 62 := by lia
    have l2 : B.length < 2 ^ 62 := by lia
    by_cases h1 : p < A.length
    · have d1 : decide ((p : Int) < (A.length : Int)) = true := decide_eq_true (by lia)
      have b1 : InB A.length p := ⟨by lia, by lia, by lia⟩
      rw [List.drop_eq_getElem_cons h1]
      by_cases h2 : p < B.length
      · have d2 : decide ((p : Int) < (B.length : Int)) = true := decide_eq_true (by lia)
        have b2 : InB B.length p := ⟨by lia, by lia, by lia⟩
        rw [List.drop_eq_getElem_cons h2]
        have g1 : A.getD (p : Int).toNat 0 = A[p] := by rw [Int.toNat_natCast, List.getD_eq_getElem?_getD, List.getElem?_eq_getElem h1]; rfl
        have g2 : B.getD (p : Int).toNat 0 = B[p] := by rw [Int.toNat_natCast, List.getD_eq_getElem?_getD, List.getElem?_eq_getElem h2]; rfl
        by_cases h3 : A[p] = B[p]
        · rw [show agr (A[p] :: A.drop (p + 1)) (B[p] :: B.drop (p + 1)) = agr (A.drop (p + 1)) (B.drop (p + 1)) + 1 from if_pos h3, show p + (agr (A.drop (p + 1)) (B.drop (p + 1)) + 1) = (p + 1) + agr (A.drop (p + 1)) (B.drop (p + 1)) by lia]
          exact .turn (LT_ok (w18t D A B M P o k p) (gcons l1 (gcons d1 (gcons l2 (gcons d2 (gcons b1 (gcons b2 (gcons (by rw [g1, g2]; exact beq_iff_eq.mpr h3) g0)))))))) (LB_ok (w18b D A B M P o k p) g0) (.inl rfl) (ih (p + 1) (by lia))
        · rw [show agr (A[p] :: A.drop (p + 1)) (B[p] :: B.drop (p + 1)) = 0 from if_neg h3]
          exact .done (LT_ok (w18f D A B M P o k p) (gcons l1 (gcons d1 (gcons l2 (gcons d2 (gcons b1 (gcons b2 (gcons (by rw [g1, g2]; exact beq_eq_false_iff_ne.mpr h3) g0))))))))
      · rw [List.drop_eq_nil_of_le (Nat.le_of_not_lt h2)]
        exact .done (LT_ok (w18g D A B M P o k p) (gcons l1 (gcons d1 (gcons l2 (gcons (decide_eq_false (by lia)) g0)))))
    · rw [List.drop_eq_nil_of_le (Nat.le_of_not_lt h1)]
      have e : agr [] (B.drop p) = 0 := by cases B.drop p <;> rfl
      rw [e]
      exact .done (LT_ok (w18h D A B M P o k p) (gcons l1 (gcons (decide_eq_false (by lia)) g0)))
theorem s18st : lst 18 = .While (testOf (lst 18)) (bodyOf (lst 18)) [] (posOfS (lst 18)) := by kernel_rfl
theorem s18 (D A B M P : List Int) (o k : Int) (hA : A.length ≤ 100) (hB : B.length ≤ 100) : EvS pw K fL 40 (lst 18) (sW D A B o M k P (0 : Nat)) .next (sW D A B o M k P (agr A B : Nat)) := by
  have h := w18w D A B M P o k hA hB A.length 0 (by lia)
  rw [List.drop_zero, List.drop_zero, Nat.zero_add] at h
  rw [s18st]
  exact .while h
theorem wkNil : WkO (.list []) (.il []) := fun _ _ _ ⟨vs, n, e, r⟩ => ⟨vs, n, e, by
  have := r.length
  generalize vs.toList = l at this r
  cases r
  exact .nil⟩
noncomputable abbrev sG (D A B : List Int) (o : Int) (M : List Int) (k : Int) (P : List Int) (g : Int) (G : List Int) (X : List AO) (pl wh ke ba lf pt ce : Option AV) : S := stP D A B o M k P (.il G :: X) pl [none, wh, some (.int g), some (.obj 24), ke, ba, lf, pt, ce]
noncomputable abbrev sG0 (D A B : List Int) (o : Int) (M : List Int) (k : Int) (P : List Int) (g : Int) (G : List Int) (X : List AO) : S := sG D A B o M k P g G X none none none none none none none
theorem s19k (D A B M P : List Int) (o k p : Int) : LS (lst 19) (sW D A B o M k P p) [] = some (.next, stP D A B o M k P [.list []] none [none, none, some (.int p), some (.obj 24), none, none, none, none, none], [], []) := by kernel_rfl
theorem s19 (D A B M P : List Int) (o k p : Int) : EvS pw K fL 40 (lst 19) (sW D A B o M k P p) .next (sG0 D A B o M k P p [] []) :=
  (LS_ok (s19k D A B M P o k p) g0).wk (by iterate 24 refine .cons .refl ?_
                                           exact .cons wkNil .nil) .refl rfl
noncomputable def s20b (i : Nat) : Stmt := stA (bodyOf (lst 20)) i
theorem s20st : lst 20 = .For (targetOf (lst 20)) (iterOf (lst 20)) [s20b 0, s20b 1, s20b 2, s20b 3, s20b 4, s20b 5, s20b 6, s20b 7, s20b 8] [] (posOfS (lst 20)) := by kernel_rfl
theorem s20tg : targetOf (lst 20) = .Name (Str.ofString "which") (psOf (targetOf (lst 20))) := by kernel_rfl
theorem s20pi : plainIter (iterOf (lst 20)) = true := by kernel_rfl
noncomputable abbrev sK (D A B : List Int) (o : Int) (M : List Int) (k : Int) (P : List Int) (g : Int) (G : List Int) (w b : Int) (ks : List AV) (X : List AO) (pl lf pt ce : Option AV) : S := sG D A B o M k P g G (.rng 0 2 1 :: .list ks :: X) pl (some (.int w)) (some (.obj 26)) (some (.int b)) lf pt ce
section
variable (D A B M P G : List Int) (o k g w b : Int) (ks : List AV) (X : List AO)
theorem s20i : LX (iterOf (lst 20)) (sG0 D A B o M k P g G []) [] = some (.obj 25, sG0 D A B o M k P g G [.rng 0 2 1], [], []) := by kernel_rfl
theorem s20t (v : Option AV) : tgt U4 fL (targetOf (lst 20)) (.int w) (sG D A B o M k P g G [.rng 0 2 1] none v none none none none none) = some (sG D A B o M k P g G [.rng 0 2 1] none (some (.int w)) none none none none none) := by kernel_rfl
theorem b0v : LX (valE (s20b 0)) (sG D A B o M k P g G [.rng 0 2 1] none (some (.int w)) none none none none none) [] = some (.obj 27, sG D A B o M k P g G [.rng 0 2 1, .list [], .tup [.obj 26, .int (447 - 64 * w)]] none (some (.int w)) none none none none none, [], [IntMulOk 64 w]) := by kernel_rfl
theorem b0st : s20b 0 = .Assign [.Tuple (tgs (s20b 0)) (tgk (s20b 0)) (tgp (s20b 0))] (valE (s20b 0)) (stp_ (s20b 0)) := by kernel_rfl
theorem b0sw : swappedStores [.Tuple (tgs (s20b 0)) (tgk (s20b 0)) (tgp (s20b 0))] (valE (s20b 0)) (envOf fL.cs) = pure (some [Str.ofString "kept", Str.ofString "base"]) := by kernel_rfl
theorem b0nc : notComp (valE (s20b 0)) = true := by kernel_rfl
theorem b0b : bindNs fL [Str.ofString "base", Str.ofString "kept"] [.int (447 - 64 * w), .obj 26] (sG D A B o M k P g G [.rng 0 2 1, .list [], .tup [.obj 26, .int (447 - 64 * w)]] none (some (.int w)) none none none none none) = some (sK D A B o M k P g G w (447 - 64 * w) [] [.tup [.obj 26, .int (447 - 64 * w)]] none none none none) := by kernel_rfl
theorem b0s : selOk (sG D A B o M k P g G [.rng 0 2 1] none (some (.int w)) none none none none none).objs.length (sK D A B o M k P g G w b [] [.tup [.obj 26, .int b]] none none none none).objs.length (upto 27) = true := by kernel_rfl
theorem b0r : renS (upto 27) (sK D A B o M k P g G w b [] [.tup [.obj 26, .int b]] none none none none) = some (sK D A B o M k P g G w b [] [] none none none none) := by kernel_rfl
end
theorem kb0 (D A B M P G : List Int) (o k g w : Int) : EvS pw K fL 40 (s20b 0) (sG D A B o M k P g G [.rng 0 2 1] none (some (.int w)) none none none none none) .next (sK D A B o M k P g G w (447 - 64 * w) [] [] none none none none) := by
  have e : EvS pw K fL 40 (s20b 0) (sG D A B o M k P g G [.rng 0 2 1] none (some (.int w)) none none none none none) .next (sK D A B o M k P g G w (447 - 64 * w) [] [.tup [.obj 26, .int (447 - 64 * w)]] none none none none) := by
    rw [b0st]
    exact .assignW2 (xs := [.obj 26, .int (447 - 64 * w)]) (names := [Str.ofString "kept", Str.ofString "base"]) rfl (LX_ok (b0v D A B M P G o k g w) (gcons (mulOk64 w) g0)) (.told rfl) (b0b D A B M P G o k g w) rfl b0nc b0sw
  exact e.gc (b0s D A B M P G o k g w _) (b0r D A B M P G o k g w _) rfl
section
variable (D A B M P P' G : List Int) (o k g w b : Int) (ks ks' : List AV) (X X' : List AO)
theorem b1c : exE (s20b 1) = .Call (.Name (Str.ofString "way") (psOf (callF (exE (s20b 1))))) (callAs (exE (s20b 1))) [] (callP (exE (s20b 1))) := by kernel_rfl
theorem b2c : exE (s20b 2) = .Call (.Name (Str.ofString "walk") (psOf (callF (exE (s20b 2))))) (callAs (exE (s20b 2))) [] (callP (exE (s20b 2))) := by kernel_rfl
theorem b3c : exE (s20b 3) = .Call (.Name (Str.ofString "way") (psOf (callF (exE (s20b 3))))) (callAs (exE (s20b 3))) [] (callP (exE (s20b 3))) := by kernel_rfl
theorem b1n : LXd 38 fL (.Name (Str.ofString "way") (psOf (callF (exE (s20b 1))))) (sK D A B o M k P g G w b ks X none none none none) [] = some (.obj 21, sK D A B o M k P g G w b ks X none none none none, [], []) := by kernel_rfl
theorem b2n : LXd 38 fL (.Name (Str.ofString "walk") (psOf (callF (exE (s20b 2))))) (sK D A B o M k P g G w b ks X none none none none) [] = some (.obj 23, sK D A B o M k P g G w b ks X none none none none, [], []) := by kernel_rfl
theorem b3n : LXd 38 fL (.Name (Str.ofString "way") (psOf (callF (exE (s20b 3))))) (sK D A B o M k P g G w b ks X none none none none) [] = some (.obj 21, sK D A B o M k P g G w b ks X none none none none, [], []) := by kernel_rfl
theorem b1a : stArgs (LE 38) fL (callAs (exE (s20b 1))) (sK D A B o M k P g G w b ks X none none none none) [] = some ([.int b, .str (Str.ofString "first")], sK D A B o M k P g G w b ks X none none none none, [], []) := by kernel_rfl
theorem b2a : stArgs (LE 38) fL (callAs (exE (s20b 2))) (sK D A B o M k P g G w b ks X none none none none) [] = some ([.int (P.getD (20 + w).toNat 0), .int (b - 2), .int b, .obj 26], sK D A B o M k P g G w b ks X none none none none, [], [InB P.length (20 + w)]) := by kernel_rfl
theorem b3a : stArgs (LE 38) fL (callAs (exE (s20b 3))) (sK D A B o M k P g G w b ks X none none none none) [] = some ([.int b, .str (Str.ofString "last")], sK D A B o M k P g G w b ks X none none none none, [], []) := by kernel_rfl
theorem b_re : renOs [3, 2, 19, 14, 20, 21] ((sK D A B o M k P g G w b ks [] none none none none).objs ++ X) [3, 2, 19, 14, 20, 21] = some (wS P o) := by kernel_rfl
theorem b_ov (n : Nat) : over [3, 2, 19, 14, 20, 21] ((wS P' o).map (embO (back [3, 2, 19, 14, 20, 21] n))) 0 (sK D A B o M k P g G w b ks [] none none none none).objs = (sK D A B o M k P' g G w b ks [] none none none none).objs := by kernel_rfl
theorem b_rw : renOs [3, 2, 0, 1, 19, 14, 20, 21, 22, 23, 26] (sK D A B o M k P g G w b [] [] none none none none).objs [3, 2, 0, 1, 19, 14, 20, 21, 22, 23, 26] = some (kS P o []) := by kernel_rfl
theorem b_ow : over [3, 2, 0, 1, 19, 14, 20, 21, 22, 23, 26] ((kS P' o ks ++ X).map (embO (back [3, 2, 0, 1, 19, 14, 20, 21, 22, 23, 26] 27))) 0 (sK D A B o M k P g G w b [] [] none none none none).objs ++ ((kS P' o ks ++ X).drop 11).map (embO (back [3, 2, 0, 1, 19, 14, 20, 21, 22, 23, 26] 27)) =
  (sK D A B o M k P' g G w b (ks.map (embV (back [3, 2, 0, 1, 19, 14, 20, 21, 22, 23, 26] 27))) (X.map (embO (back [3, 2, 0, 1, 19, 14, 20, 21, 22, 23, 26] 27))) none none none none).objs := by kernel_rfl
theorem b1k : LS (s20b 1) (sK D A B o M k P g G w b ks X none none none none) [.e (.val .none) (sK D A B o M k P' g G w b ks' X' none none none none)] = some (.next, sK D A B o M k P' g G w b ks' X' none none none none, [], [EvE pw K fL 39 (exE (s20b 1)) (sK D A B o M k P g G w b ks X none none none none) (.val .none) (sK D A B o M k P' g G w b ks' X' none none none none)]) := by kernel_rfl
theorem b2k : LS (s20b 2) (sK D A B o M k P g G w b ks X none none none none) [.e (.val .none) (sK D A B o M k P' g G w b ks' X' none none none none)] = some (.next, sK D A B o M k P' g G w b ks' X' none none none none, [], [EvE pw K fL 39 (exE (s20b 2)) (sK D A B o M k P g G w b ks X none none none none) (.val .none) (sK D A B o M k P' g G w b ks' X' none none none none)]) := by kernel_rfl
theorem b3k : LS (s20b 3) (sK D A B o M k P g G w b ks X none none none none) [.e (.val .none) (sK D A B o M k P' g G w b ks' X' none none none none)] = some (.next, sK D A B o M k P' g G w b ks' X' none none none none, [], [EvE pw K fL 39 (exE (s20b 3)) (sK D A B o M k P g G w b ks X none none none none) (.val .none) (sK D A B o M k P' g G w b ks' X' none none none none)]) := by kernel_rfl
theorem b4k : LS (s20b 4) (sK D A B o M k P g G w b ks X none none none none) [] = some (.next, sK D A B o M k P g G w b (ks ++ [.obj ((sK D A B o M k P g G w b ks X none none none none).objs ++ [AO.il (cut64 P b)]).length]) (X ++ [.il (cut64 P b)] ++ [.tup [.cint 0, .int (b - 258), .obj (sK D A B o M k P g G w b ks X none none none none).objs.length]]) none none none none, [],
    [P.length ≤ 60000, 0 ≤ b - 63 ∧ b - 63 ≤ b + 1 ∧ b + 1 ≤ (P.length : Int), ks.length ≤ 60000]) := by kernel_rfl
end
theorem back_hi {n k : Nat} (h : 11 ≤ k) : back [3, 2, 0, 1, 19, 14, 20, 21, 22, 23, 26] n k = n + (k - 11) := by
  unfold back
  rw [List.getElem?_eq_none (by simpa using h)]
  rfl
theorem refs_emb : ∀ (its : List It) (N : Nat), 11 ≤ N → (refs N its).map (embV (back [3, 2, 0, 1, 19, 14, 20, 21, 22, 23, 26] 27)) = refs (N + 16) its
  | [], _, _ => rfl
  | it :: its, N, h => by
    show AV.obj (back _ 27 (N + 1)) :: (refs (N + 2) its).map _ = .obj (N + 16 + 1) :: refs (N + 16 + 2) its
    rw [refs_emb its (N + 2) (by lia), back_hi (by lia), show 27 + (N + 1 - 11) = N + 16 + 1 by lia, show N + 2 + 16 = N + 16 + 2 by lia]
theorem Xs_emb (b : Int) : ∀ (its : List It) (N : Nat), 11 ≤ N → (Xs b N its).map (embO (back [3, 2, 0, 1, 19, 14, 20, 21, 22, 23, 26] 27)) = Xs b (N + 16) its
  | [], _, _ => rfl
  | it :: its, N, h => by
    show AO.il (cut64 it.p b) :: AO.tup [.int it.v, .int it.s, .obj (back _ 27 N)] :: (Xs b (N + 2) its).map _ = AO.il (cut64 it.p b) :: AO.tup [.int it.v, .int it.s, .obj (N + 16)] :: Xs b (N + 16 + 2) its
    rw [Xs_emb b its (N + 2) (by lia), back_hi h, show 27 + (N - 11) = N + 16 by lia, show N + 2 + 16 = N + 16 + 2 by lia]
theorem wkTup {l : List AV} {k : Int} : WkO (.tup (.cint k :: l)) (.tup (.int k :: l)) := fun _ _ _ ⟨vs, n, e, r⟩ => ⟨vs, n, e, by
  generalize vs.toList = u at r
  cases r with
  | cons h t => exact .cons h t⟩
theorem WkOs.appL : ∀ {l r r' : List AO}, WkOs r r' → WkOs (l ++ r) (l ++ r')
  | [], _, _, h => h
  | _ :: _, _, _, h => .cons .refl (WkOs.appL h)
theorem sK_len (D A B : List Int) (o : Int) (M : List Int) (k : Int) (P : List Int) (g : Int) (G : List Int) (w b : Int) (ks : List AV) (X : List AO) : (sK D A B o M k P g G w b ks X none none none none).objs.length = X.length + 27 := rfl
section
variable {D A B M P P' G : List Int} {o k g w b : Int} {ks : List AV} {X : List AO}
theorem kb1 (hp : P.length = 1120) (hb : 1 ≤ b ∧ b < 1120) : EvS pw K fL 40 (s20b 1) (sK D A B o M k P g G w b ks X none none none none) .next (sK D A B o M k (wayP P b (o + 39 + 2)) g G w b ks X none none none none) := by
  refine LS_ok (b1k D A B M P (wayP P b (o + 39 + 2)) G o k g w b ks ks X X) (gcons ?_ g0)
  rw [b1c]
  obtain ⟨a1, a2⟩ := stArgs_ok (lawN_ok U4_ok 38) (b1a D A B M P G o k g w b ks X) g0
  have h : CallG pw K cdC 38 [.obj 5, .int b, .str (Str.ofString "first")] (wS P o) (.val .none) (wS (wayP P b (o + 39 + 2)) o) := way_call (d := 30) (.inr (.inl rfl)) (spt_first o) hp hb
  exact .callClo (d := 38) rfl (LXd_ok (b1n D A B M P G o k g w b ks X) g0) a2 a1 rfl (h.frmY (objs := (sK D A B o M k P g G w b ks [] none none none none).objs) (Y := X) (sel := [3, 2, 19, 14, 20, 21]) rfl (b_re D A B M P G o k g w b ks X) rfl rfl (fun _ => rfl) (b_ov D A B M P _ G o k g w b ks))
theorem kb3 (hp : P.length = 1120) (hb : 1 ≤ b ∧ b < 1120) : EvS pw K fL 40 (s20b 3) (sK D A B o M k P g G w b ks X none none none none) .next (sK D A B o M k (wayP P b (o + 44 + 2)) g G w b ks X none none none none) := by
  refine LS_ok (b3k D A B M P (wayP P b (o + 44 + 2)) G o k g w b ks ks X X) (gcons ?_ g0)
  rw [b3c]
  obtain ⟨a1, a2⟩ := stArgs_ok (lawN_ok U4_ok 38) (b3a D A B M P G o k g w b ks X) g0
  have h : CallG pw K cdC 38 [.obj 5, .int b, .str (Str.ofString "last")] (wS P o) (.val .none) (wS (wayP P b (o + 44 + 2)) o) := way_call (d := 30) (.inr (.inr (.inl rfl))) (spt_last o) hp hb
  exact .callClo (d := 38) rfl (LXd_ok (b3n D A B M P G o k g w b ks X) g0) a2 a1 rfl (h.frmY (objs := (sK D A B o M k P g G w b ks [] none none none none).objs) (Y := X) (sel := [3, 2, 19, 14, 20, 21]) rfl (b_re D A B M P G o k g w b ks X) rfl rfl (fun _ => rfl) (b_ov D A B M P _ G o k g w b ks))
theorem kb2 {T : Tr} (hp : P.length = 1120) (hw : 0 ≤ w ∧ w ≤ 1) (hb : b = 447 - 64 * w) (hl : T.lv.length ≤ 6) (hT : HasF (get P) T) (hr : get P (20 + w) = T.id) :
    EvS pw K fL 40 (s20b 2) (sK D A B o M k P g G w b [] [] none none none none) .next (sK D A B o M k (wk o T (b - 2) P).2 g G w b (refs 27 (wk o T (b - 2) P).1) (Xs b 27 (wk o T (b - 2) P).1) none none none none) := by
  refine LS_ok (b2k D A B M P (wk o T (b - 2) P).2 G o k g w b [] (refs 27 (wk o T (b - 2) P).1) [] (Xs b 27 (wk o T (b - 2) P).1)) (gcons ?_ g0)
  rw [b2c]
  obtain ⟨a1, a2⟩ := stArgs_ok (lawN_ok U4_ok 38) (b2a D A B M P G o k g w b [] []) (gcons ⟨by lia, by lia, by lia⟩ g0)
  have hr' : P.getD (20 + w).toNat 0 = T.id := hr
  rw [hr'] at a1
  have h := walk_call (o := o) (b := b) (by lia) 5 T (b - 2) P [] [] (by lia) hT hp (by lia) (by lia) (by simp; lia)
  rw [List.nil_append, List.nil_append] at h
  have h2 := (h.more (d' := 38) (by decide)).frm (objs := (sK D A B o M k P g G w b [] [] none none none none).objs) (argsB := [.obj 23, .int T.id, .int (b - 2), .int b, .obj 26]) (sel := [3, 2, 0, 1, 19, 14, 20, 21, 22, 23, 26]) rfl (b_rw D A B M P G o k g w b) rfl rfl rfl (b_ow D A B M P (wk o T (b - 2) P).2 G o k g w b _ _)
  rw [refs_emb _ _ (by decide), Xs_emb _ _ _ (by decide)] at h2
  exact .callClo (d := 38) rfl (LXd_ok (b2n D A B M P G o k g w b [] []) g0) a2 a1 rfl h2
theorem kb4 (hp : P.length = 1120) (hb : 63 ≤ b ∧ b < 1119) (its : List It) (hk : its.length ≤ 1000) : EvS pw K fL 40 (s20b 4) (sK D A B o M k P g G w b (refs 27 its) (Xs b 27 its) none none none none) .next (sK D A B o M k P g G w b (refs 27 (its ++ [⟨0, b - 258, P⟩])) (Xs b 27 (its ++ [⟨0, b - 258, P⟩])) none none none none) := by
  have h := LS_ok (b4k D A B M P G o k g w b (refs 27 its) (Xs b 27 its)) (gcons (by lia) (gcons ⟨by lia, by lia, by lia⟩ (gcons (by rw [refs_len]; lia) g0)))
  have e1 : ((sK D A B o M k P g G w b (refs 27 its) (Xs b 27 its) none none none none).objs ++ [AO.il (cut64 P b)]).length = 27 + 2 * its.length + 1 := by rw [List.length_append, sK_len, Xs_len]; simp; lia
  have e2 : (sK D A B o M k P g G w b (refs 27 its) (Xs b 27 its) none none none none).objs.length = 27 + 2 * its.length := by rw [sK_len, Xs_len]; lia
  rw [e1, e2] at h
  have h2 : EvS pw K fL 40 (s20b 4) (sK D A B o M k P g G w b (refs 27 its) (Xs b 27 its) none none none none) .next (sK D A B o M k P g G w b (refs 27 its ++ [.obj (27 + 2 * its.length + 1)]) (Xs b 27 its ++ [.il (cut64 P b)] ++ [.tup [.int 0, .int (b - 258), .obj (27 + 2 * its.length)]]) none none none none) :=
    h.wk (by iterate 27 refine .cons .refl ?_
             exact WkOs.appL (.cons wkTup .nil)) .refl rfl
  rw [refs_app, Xs_app]
  rw [List.append_assoc] at h2
  exact h2
end
theorem refs_get : ∀ (its : List It) (N j : Nat) (it : It), its[j]? = some it → (refs N its)[j]? = some (.obj (N + 2 * j + 1))
  | [], _, _, _, h => by simp at h
  | _ :: its, N, 0, _, _ => rfl
  | _ :: its, N, j + 1, it, h => by
    rw [List.getElem?_cons_succ] at h
    show (_ :: refs (N + 2) its)[j + 1]? = _
    rw [List.getElem?_cons_succ, refs_get its (N + 2) j it h, show N + 2 + 2 * j + 1 = N + 2 * (j + 1) + 1 by lia]
theorem Xs_get (b : Int) : ∀ (its : List It) (N j : Nat) (it : It), its[j]? = some it → (Xs b N its)[2 * j]? = some (.il (cut64 it.p b)) ∧ (Xs b N its)[2 * j + 1]? = some (.tup [.int it.v, .int it.s, .obj (N + 2 * j)])
  | [], _, _, _, h => by simp at h
  | i :: its, N, 0, it, h => by
    rw [List.getElem?_cons_zero] at h
    cases h
    exact ⟨rfl, rfl⟩
  | i :: its, N, j + 1, it, h => by
    rw [List.getElem?_cons_succ] at h
    have := Xs_get b its (N + 2) j it h
    rw [show N + 2 + 2 * j = N + 2 * (j + 1) by lia] at this
    show (_ :: _ :: Xs b (N + 2) its)[2 * (j + 1)]? = _ ∧ (_ :: _ :: Xs b (N + 2) its)[2 * (j + 1) + 1]? = _
    rw [show 2 * (j + 1) + 1 = 2 * j + 1 + 1 + 1 by lia, show 2 * (j + 1) = 2 * j + 1 + 1 by lia, List.getElem?_cons_succ, List.getElem?_cons_succ, List.getElem?_cons_succ, List.getElem?_cons_succ]
    exact this
noncomputable def v5V : Expr := subV (valE (s20b 5))
noncomputable def v5S : Expr := subS (valE (s20b 5))
theorem b5st : s20b 5 = .Assign [.Tuple (tgs (s20b 5)) (tgk (s20b 5)) (tgp (s20b 5))] (.Subscript v5V v5S (subP (valE (s20b 5)))) (stp_ (s20b 5)) := by kernel_rfl
theorem b5sw : swappedStores [.Tuple (tgs (s20b 5)) (tgk (s20b 5)) (tgp (s20b 5))] (.Subscript v5V v5S (subP (valE (s20b 5)))) (envOf fL.cs) = pure none := by kernel_rfl
theorem b5ns : notSlice v5S = true := by kernel_rfl
noncomputable def c8 : Stmt := stA (bodyOf (s20b 8)) 0
noncomputable def c8t : Expr := (sPt c8).1.headD nE
theorem b8st : s20b 8 = .For (targetOf (s20b 8)) (iterOf (s20b 8)) [c8] [] (posOfS (s20b 8)) := by kernel_rfl
theorem b8tg : targetOf (s20b 8) = .Name (Str.ofString "cell") (psOf (targetOf (s20b 8))) := by kernel_rfl
theorem b8pi : plainIter (iterOf (s20b 8)) = true := by kernel_rfl
theorem c8st : c8 = .Assign [.Subscript (subV c8t) (subS c8t) (subP c8t)] (.Subscript (subV (valE c8)) (subS (valE c8)) (subP (valE c8))) (stp_ c8) := by kernel_rfl
theorem c8ns : notSlice (subS (valE c8)) = true := by kernel_rfl
section
variable (D A B M P G : List Int) (o k g w b v s i : Int) (n : Nat) (ks : List AV) (X : List AO) (pl lf pt ce : Option AV)
theorem b5a : LX v5V (sK D A B o M k P g G w b ks X pl lf pt ce) [] = some (.obj 26, sK D A B o M k P g G w b ks X pl lf pt ce, [], []) := by kernel_rfl
theorem b5b : LX v5S (sK D A B o M k P g G w b ks X pl lf pt ce) [] = some (.int g, sK D A B o M k P g G w b ks X pl lf pt ce, [], []) := by kernel_rfl
theorem b5t : tgNames fL (tgs (s20b 5)) [.int v, .int s, .obj n] (sK D A B o M k P g G w b ks X none none none none) = some (sK D A B o M k P g G w b ks X (some (.int s)) (some (.int v)) (some (.obj n)) none) := by kernel_rfl
theorem b6k : LS (s20b 6) (sK D A B o M k P g G w b ks X pl (some (.int v)) pt ce) [] = some (.next, sK D A B o M k P g (G ++ [v]) w b ks X pl (some (.int v)) pt ce, [], [G.length ≤ 60000]) := by kernel_rfl
theorem b7k : LS (s20b 7) (sK D A B o M k P g G w b ks X (some (.int s)) lf pt ce) [] = some (.next, sK D A B o M k (P.set (16 + w).toNat s) g G w b ks X (some (.int s)) lf pt ce, [], [InB P.length (16 + w)]) := by kernel_rfl
theorem b8i : LX (iterOf (s20b 8)) (sK D A B o M k P g G w b ks X pl lf pt ce) [] = some (.obj (sK D A B o M k P g G w b ks X pl lf pt ce).objs.length, sK D A B o M k P g G w b ks (X ++ [.rng 0 64 1]) pl lf pt ce, [], []) := by kernel_rfl
theorem b8t : tgt U4 fL (targetOf (s20b 8)) (.int i) (sK D A B o M k P g G w b ks X pl lf pt ce) = some (sK D A B o M k P g G w b ks X pl lf pt (some (.int i))) := by kernel_rfl
theorem c8a : LX (subV (valE c8)) (sK D A B o M k P g G w b ks X pl lf (some (.obj n)) ce) [] = some (.obj n, sK D A B o M k P g G w b ks X pl lf (some (.obj n)) ce, [], []) := by kernel_rfl
theorem c8b : LX (subS (valE c8)) (sK D A B o M k P g G w b ks X pl lf pt (some (.int i))) [] = some (.int i, sK D A B o M k P g G w b ks X pl lf pt (some (.int i)), [], []) := by kernel_rfl
theorem c8c : LX (subV c8t) (sK D A B o M k P g G w b ks X pl lf pt ce) [] = some (.obj 19, sK D A B o M k P g G w b ks X pl lf pt ce, [], []) := by kernel_rfl
theorem c8d : LX (subS c8t) (sK D A B o M k P g G w b ks X pl lf pt (some (.int i))) [] = some (.int (b - 63 + i), sK D A B o M k P g G w b ks X pl lf pt (some (.int i)), [], []) := by kernel_rfl
end
/-- the octets q laid into p, from the cell b - 63 on -/
noncomputable def copyN (q : List Int) (b : Int) : Nat → Nat → List Int → List Int
  | _, 0, p => p
  | i, n + 1, p => copyN q b (i + 1) n (p.set (b - 63 + (i : Int)).toNat (q.getD i 0))
theorem copyN_len (q : List Int) (b : Int) : ∀ (n i : Nat) (p : List Int), (copyN q b i n p).length = p.length
  | 0, _, _ => rfl
  | n + 1, i, p => by show (copyN q b (i + 1) n _).length = _; rw [copyN_len q b n, List.length_set]
section
variable {D A B M P G q : List Int} {o k g w b v s : Int} {n : Nat} {ks : List AV} {X : List AO} {pl lf : Option AV}
theorem c8turn {i : Nat} (hp : P.length = 1120) (hb : 63 ≤ b ∧ b < 1119) (hi : i < 64) (hq : q.length = 64) (hn : (sK D A B o M k P g G w b ks X pl lf (some (.obj n)) (some (.int i))).objs[n]? = some (.il q)) :
    EvB pw K fL 40 [c8] (sK D A B o M k P g G w b ks X pl lf (some (.obj n)) (some (.int i))) .next (sK D A B o M k (P.set (b - 63 + (i : Int)).toNat (q.getD i 0)) g G w b ks X pl lf (some (.obj n)) (some (.int i))) := by
  rw [c8st]
  have e1 : EvE pw K fL 40 (.Subscript (subV (valE c8)) (subS (valE c8)) (subP (valE c8))) (sK D A B o M k P g G w b ks X pl lf (some (.obj n)) (some (.int i))) (.int (q.getD i 0)) (sK D A B o M k P g G w b ks X pl lf (some (.obj n)) (some (.int i))) :=
    .subI (LX_ok (c8a D A B M P G o k g w b n ks X pl lf _) g0) (LX_ok (c8b D A B M P G o k g w b i ks X pl lf _) g0) c8ns rfl hn ⟨by lia, by lia, by lia⟩
  exact .cons (.setI (j := 19) (xs := P) (z := q.getD i 0) e1 (LX_ok (c8c D A B M P G o k g w b ks X pl lf _ _) g0) (LX_ok (c8d D A B M P G o k g w b i ks X pl lf _) g0) rfl rfl rfl ⟨by lia, by lia, by lia⟩ fun _ => swaps_plain rfl) .nil
end
theorem cut64_len {p : List Int} {b : Int} (hp : p.length = 1120) (hb : 63 ≤ b ∧ b < 1119) : (cut64 p b).length = 64 := by
  unfold cut64
  rw [List.length_take, List.length_drop]
  lia
theorem wk_plen (o : Int) : ∀ (t : Tr) (c : Int) (p : List Int), ∀ it ∈ (wk o t c p).1, it.p.length = p.length
  | .leaf _ _, _, _, it, h => by rw [List.mem_singleton.mp h]
  | .node i l r, c, p, it, h => by
    rcases List.mem_append.mp (show it ∈ _ ++ _ from h) with h | h
    · rw [wk_plen o l _ _ it h, wayP_len, List.length_set]
    · rw [wk_plen o r _ _ it h, wk_len, wayP_len, List.length_set]
noncomputable def lastP (o w : Int) (T : Tr) (p : List Int) : List Int := wayP (wk o T (445 - 64 * w) (wayP p (447 - 64 * w) (o + 39 + 2))).2 (447 - 64 * w) (o + 44 + 2)
theorem lastP_len (o w : Int) (T : Tr) (p : List Int) : (lastP o w T p).length = p.length := by unfold lastP; rw [wayP_len, wk_len, wayP_len]
theorem items_plen {o w : Int} {T : Tr} {p : List Int} {it : It} (h : it ∈ items o w T p) : it.p.length = p.length := by
  rcases List.mem_append.mp (show it ∈ _ ++ _ from h) with h | h
  · rw [wk_plen _ _ _ _ it h, wayP_len]
  · rw [List.mem_singleton.mp h]; exact lastP_len o w T p
/-- the memory when a stack is laid down as it was at it -/
noncomputable def finP (o w : Int) (T : Tr) (p : List Int) (it : It) : List Int := copyN (cut64 it.p (447 - 64 * w)) (447 - 64 * w) 0 64 ((lastP o w T p).set (16 + w).toNat it.s)
theorem finP_len (o w : Int) (T : Tr) (p : List Int) (it : It) : (finP o w T p it).length = p.length := by unfold finP; rw [copyN_len, List.length_set, lastP_len]
section
variable {D A B M P G q : List Int} {o k g w b v s : Int} {n m : Nat} {ks : List AV} {X : List AO} {pl lf : Option AV}
theorem c8turns (hb : 63 ≤ b ∧ b < 1119) (hq : q.length = 64) (hX : X[m]? = some (.il q)) {N0 : Nat} : ∀ (nn i : Nat) (P : List Int) (ce : Option AV), i + nn ≤ 64 → P.length = 1120 → ∃ ce', TurnsG pw K fL 40 N0 (targetOf (s20b 8)) [c8] (fun _ => True) (rangeAV 0 1 i nn) (sK D A B o M k P g G w b ks X pl lf (some (.obj (m + 27))) ce) .next (sK D A B o M k (copyN q b i nn P) g G w b ks X pl lf (some (.obj (m + 27))) ce')
  | 0, i, P, ce, _, _ => ⟨ce, .nil trivial⟩
  | nn + 1, i, P, ce, h1, h2 => by
    obtain ⟨ce', ht⟩ := c8turns hb hq hX nn (i + 1) (P.set (b - 63 + (i : Int)).toNat (q.getD i 0)) (some (.int i)) (by lia) ((List.length_set ..).trans h2)
    have e : (0 + (i : Int) * 1) = i := by lia
    refine ⟨ce', ?_⟩
    show TurnsG pw K fL 40 N0 _ _ _ (.int (0 + (i : Int) * 1) :: rangeAV 0 1 (i + 1) nn) _ _ _
    rw [e]
    exact .next trivial (tgt_ok U4_ok (b8t D A B M P G o k g w b i ks X pl lf _ ce)) (c8turn h2 hb (by lia) hq hX) (.inl rfl) ht
theorem kb8 (hp : P.length = 1120) (hb : 63 ≤ b ∧ b < 1119) (hq : q.length = 64) (hX : X[m]? = some (.il q)) (ce : Option AV) : ∃ ce', EvS pw K fL 40 (s20b 8) (sK D A B o M k P g G w b ks X pl lf (some (.obj (m + 27))) ce) .next (sK D A B o M k (copyN q b 0 64 P) g G w b ks (X ++ [.rng 0 64 1]) pl lf (some (.obj (m + 27))) ce') := by
  have hm := (List.getElem?_eq_some_iff.mp hX).1
  obtain ⟨ce', ht⟩ := c8turns (D := D) (A := A) (B := B) (M := M) (G := G) (o := o) (k := k) (g := g) (w := w) (ks := ks) (X := X ++ [.rng 0 64 1]) (m := m) (pl := pl) (lf := lf) (N0 := (sK D A B o M k P g G w b ks (X ++ [.rng 0 64 1]) pl lf (some (.obj (m + 27))) ce).objs.length) hb hq (by rw [List.getElem?_append_left hm]; exact hX) 64 0 P ce (by decide) hp
  refine ⟨ce', ?_⟩
  rw [b8tg] at ht
  rw [b8st, b8tg]
  refine .forRG (a := 0) (b := 64) (k := 1) (n := 64) (LX_ok (b8i D A B M P G o k g w b ks X pl lf _ ce) g0) ?_ (small_one (by decide) (by decide) (by decide) (by decide)) (by decide) ht (plainIter_of b8pi)
  show (X ++ [AO.rng 0 64 1])[X.length]? = _
  rw [List.getElem?_append_right (Nat.le_refl _), Nat.sub_self]
  rfl
theorem kb5 {its : List It} {it : It} {j : Nat} (hj : its[j]? = some it) (hg : g = j) (hl : j < 1000) : EvS pw K fL 40 (s20b 5) (sK D A B o M k P g G w b (refs 27 its) (Xs b 27 its) none none none none) .next (sK D A B o M k P g G w b (refs 27 its) (Xs b 27 its) (some (.int it.s)) (some (.int it.v)) (some (.obj (2 * j + 27))) none) := by
  rw [b5st]
  obtain ⟨x1, x2⟩ := Xs_get b its 27 j it hj
  rw [show 27 + 2 * j = 2 * j + 27 by lia] at x2
  have r1 := refs_get its 27 j it hj
  rw [show 27 + 2 * j + 1 = 2 * j + 1 + 27 by lia] at r1
  have e : EvE pw K fL 40 (.Subscript v5V v5S (subP (valE (s20b 5)))) (sK D A B o M k P g G w b (refs 27 its) (Xs b 27 its) none none none none) (.obj (2 * j + 1 + 27)) (sK D A B o M k P g G w b (refs 27 its) (Xs b 27 its) none none none none) :=
    .subL (LX_ok (b5a D A B M P G o k g w b _ _ none none none none) g0) (LX_ok (b5b D A B M P G o k g w b _ _ none none none none) g0) b5ns rfl rfl (by rw [hg, Int.toNat_natCast]; exact r1) (gcons (by lia) (gcons (by lia) g0))
  exact .assignT e (.tuple (.told x2) (tgNames_ok (b5t D A B M P G o k g w b it.v it.s (2 * j + 27) _ _))) (fun _ => by unfold swapsWithSole; exact swaps_plain rfl) fun env he => (swap_env he).trans b5sw
theorem turn20 {T : Tr} {it : It} {j : Nat} (hp : P.length = 1120) (hw : 0 ≤ w ∧ w ≤ 1) (hl : T.lv.length ≤ 6) (hT : HasF (get P) T) (hr : get P (20 + w) = T.id) (hj : (items o w T P)[j]? = some it) (hg : g = j) (hG : G.length ≤ 10) :
    ∃ ks X, EvB pw K fL 40 [s20b 0, s20b 1, s20b 2, s20b 3, s20b 4, s20b 5, s20b 6, s20b 7, s20b 8] (sG D A B o M k P g G [.rng 0 2 1] none (some (.int w)) none none none none none) .next (sG D A B o M k (finP o w T P it) g (G ++ [it.v]) (.rng 0 2 1 :: .list ks :: X) none (some (.int w)) none none none none none) := by
  have hb : (63 : Int) ≤ 447 - 64 * w ∧ 447 - 64 * w < 1119 := by lia
  have hjl : j < (items o w T P).length := (List.getElem?_eq_some_iff.mp hj).1
  have hil : (items o w T P).length = T.lv.length + 1 := by
    have := congrArg List.length (items_vals o w T P)
    rw [List.length_map, List.length_append] at this
    exact this
  have hitp : it.p.length = 1120 := (items_plen (List.mem_of_getElem? hj)).trans hp
  have t0 := kb0 D A B M P G o k g w
  have t1 := kb1 (D := D) (A := A) (B := B) (M := M) (G := G) (o := o) (k := k) (g := g) (w := w) (b := 447 - 64 * w) (ks := []) (X := []) hp (by lia)
  have l1 : (wayP P (447 - 64 * w) (o + 39 + 2)).length = 1120 := (wayP_len ..).trans hp
  have kp : ∀ i : Int, 447 - 64 * w < i → get (wayP P (447 - 64 * w) (o + 39 + 2)) i = get P i := fun i hi => wayP_keep hi (by lia) (by lia)
  have kr : get (wayP P (447 - 64 * w) (o + 39 + 2)) (20 + w) = T.id := by
    rw [← hr]
    unfold wayP
    rw [get_ne (by lia) (by lia) (by rw [List.length_set]; lia) (by lia), get_ne (by lia) (by lia) (by lia) (by lia)]
  have t2 := kb2 (D := D) (A := A) (B := B) (M := M) (G := G) (k := k) (g := g) (T := T) (o := o) l1 hw rfl hl (hT.keep fun i hi => kp i (by lia)) kr
  rw [show 447 - 64 * w - 2 = 445 - 64 * w by lia] at t2
  have l2 : (wk o T (445 - 64 * w) (wayP P (447 - 64 * w) (o + 39 + 2))).2.length = 1120 := (wk_len ..).trans l1
  have t3 := kb3 (D := D) (A := A) (B := B) (M := M) (G := G) (o := o) (k := k) (g := g) (w := w) (b := 447 - 64 * w) (ks := refs 27 (wk o T (445 - 64 * w) (wayP P (447 - 64 * w) (o + 39 + 2))).1) (X := Xs (447 - 64 * w) 27 (wk o T (445 - 64 * w) (wayP P (447 - 64 * w) (o + 39 + 2))).1) l2 (by lia)
  have l3 : (lastP o w T P).length = 1120 := (lastP_len ..).trans hp
  have t4 := kb4 (D := D) (A := A) (B := B) (M := M) (G := G) (o := o) (k := k) (g := g) (w := w) l3 hb (wk o T (445 - 64 * w) (wayP P (447 - 64 * w) (o + 39 + 2))).1 (by rw [wk_cnt]; lia)
  rw [show 447 - 64 * w - 258 = 189 - 64 * w by lia] at t4
  have t5 := kb5 (D := D) (A := A) (B := B) (M := M) (P := lastP o w T P) (G := G) (o := o) (k := k) (w := w) (b := 447 - 64 * w) hj hg (by lia)
  have t6 := LS_ok (b6k D A B M (lastP o w T P) G o k g w (447 - 64 * w) it.v (refs 27 (items o w T P)) (Xs (447 - 64 * w) 27 (items o w T P)) (some (.int it.s)) (some (.obj (2 * j + 27))) none) (gcons (by lia) g0)
  have t7 := LS_ok (b7k D A B M (lastP o w T P) (G ++ [it.v]) o k g w (447 - 64 * w) it.s (refs 27 (items o w T P)) (Xs (447 - 64 * w) 27 (items o w T P)) (some (.int it.v)) (some (.obj (2 * j + 27))) none) (gcons ⟨by lia, by lia, by lia⟩ g0)
  obtain ⟨ce', t8⟩ := kb8 (D := D) (A := A) (B := B) (M := M) (P := (lastP o w T P).set (16 + w).toNat it.s) (G := G ++ [it.v]) (o := o) (k := k) (g := g) (w := w) (b := 447 - 64 * w) (ks := refs 27 (items o w T P)) (pl := some (.int it.s)) (lf := some (.int it.v)) (m := 2 * j) ((List.length_set ..).trans l3) hb (cut64_len hitp hb) (Xs_get _ _ 27 j it hj).1 none
  refine ⟨refs 27 (items o w T P), Xs (447 - 64 * w) 27 (items o w T P) ++ [.rng 0 64 1], ?_⟩
  have e := EvB.cons t0 (.cons t1 (.cons t2 (.cons t3 (.cons t4 (.cons t5 (.cons t6 (.cons t7 (.cons t8 .nil))))))))
  exact e.wk .refl (ln_wk (.none (.some .refl (.none (.none (.some .refl (.some .refl (.none (.some .refl (.some .refl (.some .refl (.none (.none (.none (.none (.none .nil)))))))))))))))) rfl
end
theorem copyN_get {q : List Int} {b : Int} (hb : 63 ≤ b ∧ b < 1119) : ∀ (n i : Nat) (p : List Int) (j : Int), i + n ≤ 64 → p.length = 1120 → 0 ≤ j → get (copyN q b i n p) j = if b - 63 + (i : Int) ≤ j ∧ j < b - 63 + (i : Int) + (n : Int) then q.getD (j - (b - 63)).toNat 0 else get p j
  | 0, i, p, j, _, _, _ => by
    rw [if_neg (by lia)]
    rfl
  | n + 1, i, p, j, h1, h2, h3 => by
    show get (copyN q b (i + 1) n _) j = _
    rw [copyN_get hb n (i + 1) _ j (by lia) ((List.length_set ..).trans h2) h3]
    by_cases e : j = b - 63 + (i : Int)
    · subst e
      rw [if_neg (by lia), if_pos (by lia), get_eq h3 (by lia), show b - 63 + (i : Int) - (b - 63) = (i : Int) by lia, Int.toNat_natCast]
    · by_cases h : b - 63 + ((i + 1 : Nat) : Int) ≤ j ∧ j < b - 63 + ((i + 1 : Nat) : Int) + (n : Int)
      · rw [if_pos h, if_pos (by lia)]
      · rw [if_neg h, if_neg (by lia), get_ne h3 (by lia) (by lia) e]
theorem cut64_get {p : List Int} {b : Int} {i : Nat} (hb : 63 ≤ b ∧ b < 1119) (hi : i < 64) : (cut64 p b).getD i 0 = get p (b - 63 + (i : Int)) := by
  unfold cut64 get
  rw [List.getD_eq_getElem?_getD, List.getD_eq_getElem?_getD, List.getElem?_take, if_pos (by lia), List.getElem?_drop, show (b - 63 + (i : Int)).toNat = (b - 63).toNat + i by lia]
theorem wayP_out {p : List Int} {c a i : Int} (h : i < c - 1 ∨ c < i) (h0 : 0 ≤ i) (hc : 1 ≤ c) (hl : c < p.length) : get (wayP p c a) i = get p i := by
  unfold wayP
  rw [get_ne h0 (by lia) (by rw [List.length_set]; lia) (by lia), get_ne h0 (by lia) hl (by lia)]
theorem wk_out (o : Int) : ∀ (t : Tr) (c : Int) (p : List Int) (i : Int), 0 ≤ i → i < c + 1 - 3 * t.lv.length ∨ c < i → 3 * t.lv.length ≤ c → c < p.length → get (wk o t c p).2 i = get p i
  | .leaf _ _, _, _, _, _, _, _, _ => rfl
  | .node j l r, c, p, i, h0, h, hc, hl => by
    have h1 := l.lv_pos
    have h2 := r.lv_pos
    have h3 : (Tr.node j l r).lv.length = l.lv.length + r.lv.length := List.length_append
    rw [h3] at h hc
    show get (wk o r c _).2 i = _
    rw [wk_out o r c _ i h0 (by lia) (by lia) (by rw [wk_len, wayP_len, List.length_set]; exact hl), wk_out o l (c - 3) _ i h0 (by lia) (by lia) (by rw [wayP_len, List.length_set]; lia), wayP_out (by lia) h0 (by lia) (by rw [List.length_set]; lia), get_ne h0 (by lia) hl (by lia)]
theorem lastP_out {o w : Int} {T : Tr} {p : List Int} {i : Int} (hw : 0 ≤ w ∧ w ≤ 1) (hp : p.length = 1120) (hl : T.lv.length ≤ 6) (h0 : 0 ≤ i) (h : i < 384 - 64 * w ∨ 447 - 64 * w < i) : get (lastP o w T p) i = get p i := by
  unfold lastP
  rw [wayP_out (by lia) h0 (by lia) (by rw [wk_len, wayP_len]; lia), wk_out _ _ _ _ _ h0 (by lia) (by lia) (by rw [wayP_len]; lia), wayP_out (by lia) h0 (by lia) (by lia)]
theorem finP_get {o w : Int} {T : Tr} {p : List Int} {it : It} {i : Int} (hw : 0 ≤ w ∧ w ≤ 1) (hp : p.length = 1120) (hl : T.lv.length ≤ 6) (h0 : 0 ≤ i) : get (finP o w T p it) i = if 384 - 64 * w ≤ i ∧ i ≤ 447 - 64 * w then get it.p i else if i = 16 + w then it.s else get p i := by
  have hL : (lastP o w T p).length = 1120 := (lastP_len ..).trans hp
  unfold finP
  rw [copyN_get (by lia) 64 0 _ i (by decide) ((List.length_set ..).trans hL) h0]
  by_cases h : 384 - 64 * w ≤ i ∧ i ≤ 447 - 64 * w
  · rw [if_pos (by lia), if_pos h, cut64_get (by lia) (by lia), show 447 - 64 * w - 63 + ((i - (447 - 64 * w - 63)).toNat : Int) = i by lia]
  · rw [if_neg (by lia), if_neg h, get_set h0 (by lia) (by lia)]
    by_cases e : i = 16 + w
    · rw [if_pos e, if_pos e]
    · rw [if_neg e, if_neg e, lastP_out hw hp hl h0 (by lia)]
section
variable (D A B M P G : List Int) (o k g : Int) (ks : List AV) (X : List AO) (v : Option AV)
theorem s20s (N : List Int) : selOk (sG0 D A B o M k N g [] [.rng 0 2 1]).objs.length (sG D A B o M k P g G (.rng 0 2 1 :: .list ks :: X) none v none none none none none).objs.length (upto 26) = true := by kernel_rfl
theorem s20r (i : Int) : renS (upto 26) (sG D A B o M k P g G (.rng 0 2 1 :: .list ks :: X) none (some (.int i)) none none none none none) = some (sG D A B o M k P g G [.rng 0 2 1] none (some (.int i)) none none none none none) := by kernel_rfl
theorem s20y (N : List Int) : selOk (sG0 D A B o M k N g [] []).objs.length (sG0 D A B o M k P g G [.rng 0 2 1]).objs.length (upto 25) = true := by kernel_rfl
theorem s20z : renS (upto 25) (sG0 D A B o M k P g G [.rng 0 2 1]) = some (sG0 D A B o M k P g G []) := by kernel_rfl
end
theorem s20 {D A B M N : List Int} {o k g : Int} {T0 T1 : Tr} {it0 it1 : It} {j : Nat} (hp : N.length = 1120) (l0 : T0.lv.length ≤ 6) (l1 : T1.lv.length ≤ 6) (h0 : HasF (get N) T0) (h1 : HasF (get N) T1) (r0 : get N 20 = T0.id) (r1 : get N 21 = T1.id) (hg : g = j) (j0 : (items o 0 T0 N)[j]? = some it0) (j1 : (items o 1 T1 (finP o 0 T0 N it0))[j]? = some it1) :
    EvS pw K fL 40 (lst 20) (sG0 D A B o M k N g [] []) .next (sG0 D A B o M k (finP o 1 T1 (finP o 0 T0 N it0) it1) g [it0.v, it1.v] []) := by
  have hf := fun (i : Int) (hi : 0 ≤ i) => finP_get (o := o) (w := 0) (T := T0) (p := N) (it := it0) (i := i) (by decide) hp l0 hi
  have hp1 : (finP o 0 T0 N it0).length = 1120 := (finP_len ..).trans hp
  have h1' : HasF (get (finP o 0 T0 N it0)) T1 := h1.keep fun i hi => by rw [hf i (by lia), if_neg (by lia), if_neg (by lia)]
  have r1' : get (finP o 0 T0 N it0) (20 + 1) = T1.id := by rw [hf _ (by decide), if_neg (by decide), if_neg (by decide)]; exact r1
  obtain ⟨ks, X, b0⟩ := turn20 (D := D) (A := A) (B := B) (M := M) (G := []) (k := k) (g := g) (w := 0) hp (by decide) l0 h0 r0 j0 hg (by decide)
  obtain ⟨ks', X', b1⟩ := turn20 (D := D) (A := A) (B := B) (M := M) (G := [] ++ [it0.v]) (k := k) (g := g) (w := 1) hp1 (by decide) l1 h1' r1' j1 hg (by simp)
  have t0 : EvAs pw K fL 40 (targetOf (lst 20)) (.int 0) (sG D A B o M k N g [] [.rng 0 2 1] none none none none none none none) (sG D A B o M k N g [] [.rng 0 2 1] none (some (.int 0)) none none none none none) := tgt_ok U4_ok (s20t D A B M N [] o k g 0 none)
  have t1 : EvAs pw K fL 40 (targetOf (lst 20)) (.int 1) (sG D A B o M k (finP o 0 T0 N it0) g ([] ++ [it0.v]) [.rng 0 2 1] none (some (.int 0)) none none none none none) (sG D A B o M k (finP o 0 T0 N it0) g ([] ++ [it0.v]) [.rng 0 2 1] none (some (.int 1)) none none none none none) := tgt_ok U4_ok (s20t D A B M (finP o 0 T0 N it0) ([] ++ [it0.v]) o k g 1 (some (.int 0)))
  rw [s20tg] at t0 t1
  have h : EvS pw K fL 40 (lst 20) (sG0 D A B o M k N g [] []) .next (sG D A B o M k (finP o 1 T1 (finP o 0 T0 N it0) it1) g [it0.v, it1.v] [.rng 0 2 1] none (some (.int 1)) none none none none none) := by
    rw [s20st, s20tg]
    refine .forRG (a := 0) (b := 2) (k := 1) (n := 2) (i := 25) (LX_ok (s20i D A B M N [] o k g) g0) rfl (small_one (by decide) (by decide) (by decide) (by decide)) (by decide) ?_ (plainIter_of s20pi)
    exact .nextG trivial t0 b0 (.inl rfl) (s20s D A B M _ _ o k g ks X _ N) (s20r D A B M _ _ o k g ks X _) (.nextG trivial t1 b1 (.inl rfl) (s20s D A B M _ _ o k g ks' X' _ N) (s20r D A B M _ _ o k g ks' X' _) (.nil trivial))
  have h2 : EvS pw K fL 40 (lst 20) (sG0 D A B o M k N g [] []) .next (sG0 D A B o M k (finP o 1 T1 (finP o 0 T0 N it0) it1) g [it0.v, it1.v] [.rng 0 2 1]) :=
    h.wk .refl (ln_wk (.none (.some .refl (.none (.none (.some .refl (.some .refl (.none (.none (.some .refl (.some .refl (.none (.none (.none (.none (.none .nil)))))))))))))))) rfl
  exact h2.gc (s20y D A B M _ _ o k g N) (s20z D A B M _ _ o k g) rfl
noncomputable abbrev sH (D A B : List Int) (o : Int) (M : List Int) (k : Int) (P : List Int) (g : Int) (G : List Int) (X : List AO) (ls : List (Option AV)) : S := stP D A B o M k P (.il G :: X) none (none :: none :: some (.int g) :: some (.obj 24) :: none :: none :: none :: none :: none :: ls)
noncomputable def sameI (A B : List Int) : Int := if A = B then 1 else 0
section
variable (D A B M P G : List Int) (o k g sm : Int) (Y : List AO)
theorem s21t : LS (lst 21) (sH D A B o M k P g G [] []) [.b true] = some (.next, sH D A B o M k P g G [] [some (.cint 1)], [], [decide (A = B) = true]) := by kernel_rfl
theorem s21f : LS (lst 21) (sH D A B o M k P g G [] []) [.b false] = some (.next, sH D A B o M k P g G [] [some (.cint 0)], [], [decide (A = B) = false]) := by kernel_rfl
theorem s21w (i : Int) : WkLs (sH D A B o M k P g G [] [some (.cint i)]).locs (sH D A B o M k P g G [] [some (.int i)]).locs := ln_wk (.none (.some .refl (.none (.none (.some .refl (.some .refl (.none (.none (.some .refl (.some .refl (.none (.none (.none (.none (.none (.some .intC .nil))))))))))))))))
theorem s21 : EvS pw K fL 40 (lst 21) (sH D A B o M k P g G [] []) .next (sH D A B o M k P g G [] [some (.int (sameI A B))]) := by
  unfold sameI
  by_cases h : A = B
  · rw [if_pos h]
    exact (LS_ok (s21t D A B M P G o k g) (gcons (decide_eq_true h) g0)).wk .refl (s21w D A B M P G o k g 1) rfl
  · rw [if_neg h]
    exact (LS_ok (s21f D A B M P G o k g) (gcons (decide_eq_false h) g0)).wk .refl (s21w D A B M P G o k g 0) rfl
noncomputable def t22 (i : Nat) : Expr := match (tgs (lst 22)).drop i with
  | e :: _ => e
  | [] => .Constant .none 0 default
noncomputable def s22t : Expr := .Tuple [.Subscript (subV (t22 0)) (subS (t22 0)) (subP (t22 0)), .Subscript (subV (t22 1)) (subS (t22 1)) (subP (t22 1)), .Subscript (subV (t22 2)) (subS (t22 2)) (subP (t22 2)), .Subscript (subV (t22 3)) (subS (t22 3)) (subP (t22 3)), .Subscript (subV (t22 4)) (subS (t22 4)) (subP (t22 4))] (tgk (lst 22)) (tgp (lst 22))
theorem s22st : lst 22 = .Assign [s22t] (valE (lst 22)) (stp_ (lst 22)) := by kernel_rfl
theorem s22sw : swappedStores [s22t] (valE (lst 22)) (envOf fL.cs) = pure none := by kernel_rfl
theorem s22nc : notComp (valE (lst 22)) = true := by kernel_rfl
noncomputable abbrev s22T (g sm : Int) (G : List Int) : List AO := [.tup [.int (G.getD (1 : Int).toNat 0), .cint 253, .int (G.getD (0 : Int).toNat 0), .int g, .int sm]]
theorem s22v : LX (valE (lst 22)) (sH D A B o M k P g G [] [some (.int sm)]) [] = some (.obj 25, sH D A B o M k P g G (s22T g sm G) [some (.int sm)], [], [InB G.length 1, InB G.length 0]) := by kernel_rfl
theorem s22a (i : Nat) (h : i < 5) : LX (subV (t22 i)) (sH D A B o M k P g G Y [some (.int sm)]) [] = some (.obj 19, sH D A B o M k P g G Y [some (.int sm)], [], []) := by
  match i, h with
  | 0, _ => kernel_rfl
  | 1, _ => kernel_rfl
  | 2, _ => kernel_rfl
  | 3, _ => kernel_rfl
  | 4, _ => kernel_rfl
noncomputable def ix22 (i : Nat) : Int := [2, 3, 5, 7, 8].getD i 0
theorem s22b (i : Nat) (h : i < 5) : LX (subS (t22 i)) (sH D A B o M k P g G Y [some (.int sm)]) [] = some (.cint (ix22 i), sH D A B o M k P g G Y [some (.int sm)], [], []) := by
  match i, h with
  | 0, _ => kernel_rfl
  | 1, _ => kernel_rfl
  | 2, _ => kernel_rfl
  | 3, _ => kernel_rfl
  | 4, _ => kernel_rfl
theorem s22r : renS (upto 25) (sH D A B o M k P g G (s22T g sm G) [some (.int sm)]) = some (sH D A B o M k P g G [] [some (.int sm)]) := by kernel_rfl
theorem s22s (Q : List Int) : selOk (sH D A B o M k Q g G [] [some (.int sm)]).objs.length (sH D A B o M k P g G (s22T g sm G) [some (.int sm)]).objs.length (upto 25) = true := by kernel_rfl
end
section
variable {D A B M P G : List Int} {o k g sm : Int}
theorem s22one {Y : List AO} (hp : P.length = 1120) (i : Nat) (h : i < 5) {x : AV} {z : Int} (hx : x.i? = some z) : EvAs pw K fL 40 (.Subscript (subV (t22 i)) (subS (t22 i)) (subP (t22 i))) x (sH D A B o M k P g G Y [some (.int sm)]) (sH D A B o M k (P.set (ix22 i).toNat z) g G Y [some (.int sm)]) := by
  have hi : 0 ≤ ix22 i ∧ ix22 i < 9 := by
    match i, h with
    | 0, _ => decide
    | 1, _ => decide
    | 2, _ => decide
    | 3, _ => decide
    | 4, _ => decide
  exact .subI (j := 19) (xs := P) (LX_ok (s22a D A B M P G o k g sm Y i h) g0) (LX_ok (s22b D A B M P G o k g sm Y i h) g0) hx rfl rfl ⟨hi.1, by lia, by lia⟩
/-- the five cells -/
noncomputable def five (P : List Int) (v0 v1 g sm : Int) : List Int := ((((P.set (2 : Int).toNat v1).set (3 : Int).toNat 253).set (5 : Int).toNat v0).set (7 : Int).toNat g).set (8 : Int).toNat sm
theorem five_len (P : List Int) (v0 v1 g sm : Int) : (five P v0 v1 g sm).length = P.length := by unfold five; simp
theorem s22 (v0 v1 : Int) (hp : P.length = 1120) : EvS pw K fL 40 (lst 22) (sH D A B o M k P g [v0, v1] [] [some (.int sm)]) .next (sH D A B o M k (five P v0 v1 g sm) g [v0, v1] [] [some (.int sm)]) := by
  have l1 : (P.set (2 : Int).toNat v1).length = 1120 := (List.length_set ..).trans hp
  have l2 : ((P.set (2 : Int).toNat v1).set (3 : Int).toNat 253).length = 1120 := (List.length_set ..).trans l1
  have l3 : (((P.set (2 : Int).toNat v1).set (3 : Int).toNat 253).set (5 : Int).toNat v0).length = 1120 := (List.length_set ..).trans l2
  have l4 : ((((P.set (2 : Int).toNat v1).set (3 : Int).toNat 253).set (5 : Int).toNat v0).set (7 : Int).toNat g).length = 1120 := (List.length_set ..).trans l3
  have e : EvS pw K fL 40 (lst 22) (sH D A B o M k P g [v0, v1] [] [some (.int sm)]) .next (sH D A B o M k (five P v0 v1 g sm) g [v0, v1] (s22T g sm [v0, v1]) [some (.int sm)]) := by
    rw [s22st]
    refine .assignT (LX_ok (s22v D A B M P [v0, v1] o k g sm) (gcons ⟨by decide, by simp, by decide⟩ (gcons ⟨by decide, by simp, by decide⟩ g0))) (.tuple (.told rfl) ?_) (fun _ => by unfold swapsWithSole; exact swaps_plain s22nc) fun env he => (swap_env he).trans s22sw
    exact .cons rfl (s22one hp 0 (by decide) (z := v1) rfl) (.cons rfl (s22one l1 1 (by decide) (z := 253) rfl) (.cons rfl (s22one l2 2 (by decide) (z := v0) rfl) (.cons rfl (s22one l3 3 (by decide) (z := g) rfl) (.cons rfl (s22one l4 4 (by decide) (z := sm) rfl) .nil))))
  exact e.gc (s22s D A B M _ [v0, v1] o k g sm P) (s22r D A B M _ [v0, v1] o k g sm) rfl
end
section
variable (D A B M P P' G : List Int) (o k g sm : Int)
theorem s23c : exE (lst 23) = .Call (.Name (Str.ofString "way") (psOf (callF (exE (lst 23))))) (callAs (exE (lst 23))) [] (callP (exE (lst 23))) := by kernel_rfl
theorem s23n : LXd 38 fL (.Name (Str.ofString "way") (psOf (callF (exE (lst 23))))) (sH D A B o M k P g G [] [some (.int sm)]) [] = some (.obj 21, sH D A B o M k P g G [] [some (.int sm)], [], []) := by kernel_rfl
theorem s23a : stArgs (LE 38) fL (callAs (exE (lst 23))) (sH D A B o M k P g G [] [some (.int sm)]) [] = some ([.cint 511, .str (Str.ofString "two")], sH D A B o M k P g G [] [some (.int sm)], [], []) := by kernel_rfl
theorem s23r : renOs [3, 2, 19, 14, 20, 21] (sH D A B o M k P g G [] [some (.int sm)]).objs [3, 2, 19, 14, 20, 21] = some (wS P o) := by kernel_rfl
theorem s23o : over [3, 2, 19, 14, 20, 21] ((wS P' o).map (embO (back [3, 2, 19, 14, 20, 21] 25))) 0 (sH D A B o M k P g G [] [some (.int sm)]).objs ++ ((wS P' o).drop 6).map (embO (back [3, 2, 19, 14, 20, 21] 25)) = (sH D A B o M k P' g G [] [some (.int sm)]).objs := by kernel_rfl
theorem s23k : LS (lst 23) (sH D A B o M k P g G [] [some (.int sm)]) [.e (.val .none) (sH D A B o M k P' g G [] [some (.int sm)])] = some (.next, sH D A B o M k P' g G [] [some (.int sm)], [], [EvE pw K fL 39 (exE (lst 23)) (sH D A B o M k P g G [] [some (.int sm)]) (.val .none) (sH D A B o M k P' g G [] [some (.int sm)])]) := by kernel_rfl
end
/-- an argument of which less is told -/
theorem CallG.cint {cd : List Value → Code} {d : Nat} {a b : AV} {i : Int} {objs objs' : List AO} {x : AV} (h : CallG pw K cd d [a, .int i, b] objs x objs') : CallG pw K cd d [a, .cint i, b] objs x objs' := by
  unfold CallG at h ⊢
  intro f c σ hf ok hσ as os m s vs Q E R rvs hq
  refine h f c σ hf ok hσ as os m s vs Q E R ?_ hq
  cases rvs with
  | cons r rs =>
    cases rs with
    | cons r' rs => exact .cons r (.cons r' rs)
theorem s23 {D A B M P G : List Int} {o k g sm : Int} (hp : P.length = 1120) : EvS pw K fL 40 (lst 23) (sH D A B o M k P g G [] [some (.int sm)]) .next (sH D A B o M k (wayP P 511 (o + 9 + 2)) g G [] [some (.int sm)]) := by
  refine LS_ok (s23k D A B M P (wayP P 511 (o + 9 + 2)) G o k g sm) (gcons ?_ g0)
  rw [s23c]
  obtain ⟨a1, a2⟩ := stArgs_ok (lawN_ok U4_ok 38) (s23a D A B M P G o k g sm) g0
  have h : CallG pw K cdC 38 [.obj 5, .cint 511, .str (Str.ofString "two")] (wS P o) (.val .none) (wS (wayP P 511 (o + 9 + 2)) o) := (way_call (d := 30) (.inr (.inr (.inr rfl))) (spt_two o) hp (by decide)).cint
  exact .callClo (d := 38) rfl (LXd_ok (s23n D A B M P G o k g sm) g0) a2 a1 rfl (h.frm (sel := [3, 2, 19, 14, 20, 21]) rfl (s23r D A B M P G o k g sm) rfl rfl rfl (s23o D A B M P _ G o k g sm))
theorem agr_lt : ∀ (A B : List Int), agr A B ≤ A.length ∧ agr A B ≤ B.length
  | [], B => ⟨Nat.zero_le _, by cases B <;> exact Nat.zero_le _⟩
  | a :: A, [] => ⟨Nat.zero_le _, Nat.zero_le _⟩
  | a :: A, b :: B => by
    have := agr_lt A B
    unfold agr
    split
    · simp only [List.length_cons]; lia
    · exact ⟨Nat.zero_le _, Nat.zero_le _⟩
theorem agr_end : ∀ (A B : List Int), (∀ v ∈ A, v ≠ 0) → (∀ v ∈ B, v ≠ 0) → ((A ++ [0])[agr A B]? = (B ++ [0])[agr A B]? ↔ A = B)
  | [], [], _, _ => ⟨fun _ => rfl, fun _ => rfl⟩
  | [], b :: B, _, hB => ⟨fun h => absurd (Option.some.inj (show some (0 : Int) = some b from h)).symm (hB b (.head _)), fun h => nomatch h⟩
  | a :: A, [], hA, _ => ⟨fun h => absurd (Option.some.inj (show some a = some (0 : Int) from h)) (hA a (.head _)), fun h => nomatch h⟩
  | a :: A, b :: B, hA, hB => by
    by_cases e : a = b
    · subst e
      rw [show agr (a :: A) (a :: B) = agr A B + 1 from if_pos rfl, List.cons_append, List.cons_append, List.getElem?_cons_succ, List.getElem?_cons_succ, agr_end A B (fun v h => hA v (.tail _ h)) (fun v h => hB v (.tail _ h))]
      exact ⟨fun h => by rw [h], fun h => (List.cons.inj h).2⟩
    · rw [show agr (a :: A) (b :: B) = 0 from if_neg e]
      exact ⟨fun h => absurd (Option.some.inj (show some a = some b from h)) e, fun h => absurd (List.cons.inj h).1 e⟩
theorem get_elem {l : List Int} {i : Nat} (h : i < l.length) : l[i] = get l i := by
  unfold get
  rw [List.getD_eq_getElem?_getD, Int.toNat_natCast, List.getElem?_eq_getElem h]
  rfl
theorem list_get {a b : List Int} (h : a.length = b.length) (e : ∀ i : Int, 0 ≤ i → i < a.length → get a i = get b i) : a = b := by
  refine List.ext_getElem h fun i h1 h2 => ?_
  rw [get_elem h1, get_elem h2]
  exact e i (by lia) (by lia)
/-- what the law says of the memory in the end -/
noncomputable def endP (o : Int) (T0 T1 : Tr) (N : List Int) (it0 it1 : It) (j sm : Int) : List Int := wayP (five (finP o 1 T1 (finP o 0 T0 N it0) it1) it0.v it1.v j sm) 511 (o + 9 + 2)
section
variable {o j sm : Int} {N m : List Int} {T0 T1 : Tr} {it0 it1 : It}
theorem end_len (hN : N.length = 1120) : (endP o T0 T1 N it0 it1 j sm).length = 1120 := by
  unfold endP
  rw [wayP_len, five_len, finP_len, finP_len, hN]
theorem five_get {P : List Int} {v0 v1 g i : Int} (hp : P.length = 1120) (h0 : 0 ≤ i) : get (five P v0 v1 g sm) i = if i = 8 then sm else if i = 7 then g else if i = 5 then v0 else if i = 3 then 253 else if i = 2 then v1 else get P i := by
  unfold five
  rw [get_set h0 (by decide) (by simp [hp]), get_set h0 (by decide) (by simp [hp]), get_set h0 (by decide) (by simp [hp]), get_set h0 (by decide) (by simp [hp]), get_set h0 (by decide) (by simp [hp])]
theorem wayP_get {p : List Int} {c a i : Int} (h0 : 0 ≤ i) (hc : 1 ≤ c) (hl : c < p.length) : get (wayP p c a) i = if i = c - 1 then a % 256 else if i = c then a / 256 else get p i := by
  unfold wayP
  rw [get_set h0 (by lia) (by rw [List.length_set]; lia), get_set h0 (by lia) hl]
theorem mem_end (hN : N.length = 1120) (l0 : T0.lv.length ≤ 6) (l1 : T1.lv.length ≤ 6) (M : Mt o N it0 it1 j sm m) : m = endP o T0 T1 N it0 it1 j sm := by
  have lf0 : (finP o 0 T0 N it0).length = 1120 := (finP_len ..).trans hN
  have lf1 : (finP o 1 T1 (finP o 0 T0 N it0) it1).length = 1120 := (finP_len ..).trans lf0
  have lf : (five (finP o 1 T1 (finP o 0 T0 N it0) it1) it0.v it1.v j sm).length = 1120 := (five_len ..).trans lf1
  refine list_get (M.len.trans (end_len hN).symm) fun i h0 h1 => ?_
  have hoo : o + 9 + 2 = o + 11 := by lia
  unfold endP
  rw [wayP_get h0 (by decide) (by lia), hoo]
  by_cases c510 : i = 511 - 1
  · rw [if_pos c510, c510]; exact M.c510
  rw [if_neg c510]
  by_cases c511 : i = 511
  · rw [if_pos c511, c511]; exact M.c511
  rw [if_neg c511, five_get lf1 h0]
  by_cases c8 : i = 8
  · rw [if_pos c8, c8]; exact M.c8
  rw [if_neg c8]
  by_cases c7 : i = 7
  · rw [if_pos c7, c7]; exact M.c7
  rw [if_neg c7]
  by_cases c5 : i = 5
  · rw [if_pos c5, c5]; exact M.c5
  rw [if_neg c5]
  by_cases c3 : i = 3
  · rw [if_pos c3, c3]; exact M.c3
  rw [if_neg c3]
  by_cases c2 : i = 2
  · rw [if_pos c2, c2]; exact M.c2
  rw [if_neg c2, finP_get (by decide) lf0 l1 h0]
  by_cases r1 : 320 ≤ i ∧ i ≤ 383
  · rw [if_pos (by lia)]; exact M.r1 i r1.1 r1.2
  rw [if_neg (by lia)]
  by_cases c17 : i = 16 + 1
  · rw [if_pos c17, c17]; exact M.c17
  rw [if_neg c17, finP_get (by decide) hN l0 h0]
  by_cases r0 : 384 ≤ i ∧ i ≤ 447
  · rw [if_pos (by lia)]; exact M.r0 i r0.1 r0.2
  rw [if_neg (by lia)]
  by_cases c16 : i = 16 + 0
  · rw [if_pos c16, c16]; exact M.c16
  rw [if_neg c16]
  exact M.out i h0 (by lia) (by unfold Sc; lia)
end
/-- the memory when the machine starts -/
structure Start (o : Int) (N : List Int) (T0 T1 : Tr) : Prop where
  nm : Nm o N T0 T1
  c16 : get N 16 = 189
  c17 : get N 17 = 125
  c7 : get N 7 = 0
  c8 : get N 8 = 0
  b0l : get N 446 = (o + 36) % 256
  b0h : get N 447 = (o + 36) / 256
  b1l : get N 382 = (o + 36) % 256
  b1h : get N 383 = (o + 36) / 256
  l0 : 1 ≤ T0.lv.length ∧ T0.lv.length ≤ 5
  l1 : 1 ≤ T1.lv.length ∧ T1.lv.length ≤ 6
  v0 : ∀ v ∈ T0.lv, 0 < v ∧ v < 256
  v1 : ∀ v ∈ T1.lv, 0 < v ∧ v < 256
/-- what the law needs of the run -/
inductive RunOk (o : Int) (N : List Int) (T0 T1 : Tr) : Prop
  | mk (n : Nat) (it0 it1 : It) (m' : M) (hn : n ≤ 900) (j0 : (items o 0 T0 N)[agr T0.lv T1.lv]? = some it0) (j1 : (items o 1 T1 (finP o 0 T0 N it0))[agr T0.lv T1.lv]? = some it1) (hR : Run (o + 87) n ⟨0, 0, 0, 255, 48, o, N⟩ m') (hm : m' = ⟨it1.v, 253, 1, 255, fl it0.v it1.v, o + 87, endP o T0 T1 N it0 it1 (agr T0.lv T1.lv : Nat) (sameI T0.lv T1.lv)⟩) (hv : it0.v = it1.v ↔ T0.lv = T1.lv) : RunOk o N T0 T1
theorem val_at {o w : Int} {T : Tr} {p : List Int} {j : Nat} {it : It} (h : (items o w T p)[j]? = some it) : (T.lv ++ [0])[j]? = some it.v := by
  rw [← items_vals o w T p, List.getElem?_map, h]
  rfl
theorem run_main {o : Int} {N : List Int} {T0 T1 : Tr} (H : Start o N T0 T1) : RunOk o N T0 T1 := by
  have hN := H.nm.cd.len
  have ho := H.nm.cd.ho
  have la := agr_lt T0.lv T1.lv
  have hil : (items o 0 T0 N).length = T0.lv.length + 1 := by
    have := congrArg List.length (items_vals o 0 T0 N)
    rw [List.length_map, List.length_append] at this
    exact this
  have hj : agr T0.lv T1.lv < (items o 0 T0 N).length := by lia
  have j0 : (items o 0 T0 N)[agr T0.lv T1.lv]? = some (items o 0 T0 N)[agr T0.lv T1.lv] := List.getElem?_eq_getElem hj
  generalize (items o 0 T0 N)[agr T0.lv T1.lv] = it0 at j0
  have lf0 : (finP o 0 T0 N it0).length = 1120 := (finP_len ..).trans hN
  have fg : ∀ i : Int, 0 ≤ i → i < 384 → i ≠ 16 → get N i = get (finP o 0 T0 N it0) i := fun i h0 h1 h2 => by
    rw [finP_get (by decide) hN (by have := H.l0; lia) h0, if_neg (by lia), if_neg (by lia)]
  obtain ⟨q0, r0', s0', p0', e0, c0⟩ := start_ch (o := o) (w := 0) (T := T0) (by decide) ho (fun v h => by have := H.v0 v h; lia) (by have := H.l0; lia) hN
  obtain ⟨q1, r1', s1', p1', e1, c1⟩ := start_ch (o := o) (w := 1) (T := T1) (by decide) ho (fun v h => by have := H.v1 v h; lia) H.l1.2 lf0
  have hM : Ms N N (finP o 0 T0 N it0) 189 125 ((0 : Nat) : Int) N := ⟨hN, hN, lf0, fun _ _ _ => rfl, fun i h0 h1 => fg i (by lia) (by lia) (by lia), H.c16, H.c17, H.c7, H.c8, fun _ _ _ _ => rfl⟩
  have ra0 : RetA 0 N 189 (o + 37) := ⟨by decide, by decide, by rw [show (189 : Int) + 258 = 447 from rfl, H.b0h]; lia, by rw [show (189 : Int) + 258 = 447 from rfl, show (189 : Int) + 257 = 446 from rfl, H.b0h, H.b0l]; lia, by lia, by lia⟩
  have ra1 : RetA 1 (finP o 0 T0 N it0) 125 (o + 37) := ⟨by decide, by decide, by rw [show (125 : Int) + 258 = 383 from rfl, ← fg 383 (by decide) (by decide) (by decide), H.b1h]; lia, by rw [show (125 : Int) + 258 = 383 from rfl, show (125 : Int) + 257 = 382 from rfl, ← fg 383 (by decide) (by decide) (by decide), ← fg 382 (by decide) (by decide) (by decide), H.b1h, H.b1l]; lia, by lia, by lia⟩
  obtain ⟨n, i0, i1, m', h1, h2, h3, h4, h5⟩ := rounds H.nm T0.lv T1.lv (items o 0 T0 N) (items o 1 T1 (finP o 0 T0 N it0)) q0 q1 0 N (finP o 0 T0 N it0) N 189 125 (o + 37) (o + 37) 0 0 0 false false false hM ra0 ra1 (c0 189) (c1 125) (items_vals ..) (items_vals ..) (fun v h => by have := H.v0 v h; lia) (fun v h => by have := H.v1 v h; lia) (by have := H.l0; lia)
  rw [j0] at h2
  cases h2
  have hv : it0.v = i1.v ↔ T0.lv = T1.lv := by
    rw [← agr_end T0.lv T1.lv (fun v h => by have := H.v0 v h; lia) (fun v h => by have := H.v1 v h; lia), val_at j0, val_at h3]
    exact ⟨fun h => by rw [h], fun h => Option.some.inj h⟩
  have l0 := H.l0
  have l1 := H.l1
  have sm : (if it0.v = i1.v then (1 : Int) else 0) = sameI T0.lv T1.lv := by
    unfold sameI
    by_cases h : T0.lv = T1.lv
    · rw [if_pos h, if_pos (hv.mpr h)]
    · rw [if_neg h, if_neg fun q => h (hv.mp q)]
  rw [sm, Nat.zero_add] at h5
  have hm := mem_end (T0 := T0) (T1 := T1) hN (by lia) l1.2 h5
  rw [hm] at h4
  refine ⟨n, it0, i1, _, by lia, j0, h3, ?_, rfl, hv⟩
  have e : (⟨0, 0, 0, 255, Pf false false false, o + 0, N⟩ : M) = ⟨0, 0, 0, 255, 48, o, N⟩ := mk_eq rfl rfl rfl rfl rfl (Int.add_zero o) rfl
  rw [e] at h4
  exact h4
theorem get_l {a b : List Int} {i : Int} (h0 : 0 ≤ i) (h : i < a.length) : get (a ++ b) i = get a i := by
  unfold get
  rw [List.getD_eq_getElem?_getD, List.getD_eq_getElem?_getD, List.getElem?_append_left (by lia)]
theorem get_r {a b : List Int} {i : Int} (h : (a.length : Int) ≤ i) : get (a ++ b) i = get b (i - a.length) := by
  unfold get
  rw [List.getD_eq_getElem?_getD, List.getD_eq_getElem?_getD, List.getElem?_append_right (by lia), show (i - (a.length : Int)).toNat = i.toNat - a.length by lia]
theorem get_z {l : List Int} (h : ∀ x ∈ l, x = 0) (i : Int) : get l i = 0 := by
  unfold get
  rw [List.getD_eq_getElem?_getD]
  cases e : l[i.toNat]? with
  | none => rfl
  | some x => exact h x (List.mem_of_getElem? e)
theorem mulL_z (k : Int) : ∀ x ∈ mulL [0] k, x = 0 := by
  intro x hx
  unfold mulL at hx
  obtain ⟨l, h1, h2⟩ := List.mem_flatten.mp hx
  rw [(List.mem_replicate.mp h1).2] at h2
  exact List.mem_singleton.mp h2
theorem mem0_get {o i : Int} (ho : 512 ≤ o ∧ o ≤ 767) (h0 : 0 ≤ i) (h : i < o ∨ o + 87 ≤ i) : get (mem0 o) i = 0 := by
  have l1 : ((mulL [0] o).length : Int) = o := by rw [mulL_len]; simp; lia
  unfold mem0
  by_cases h1 : i < o
  · rw [List.append_assoc, get_l h0 (by lia)]
    exact get_z (mulL_z _) _
  · rw [get_r (by rw [List.length_append, raw_len]; lia)]
    exact get_z (mulL_z _) _
theorem mem0_code {o k : Int} (ho : 512 ≤ o ∧ o ≤ 767) (h0 : 0 ≤ k) (h1 : k < 87) : get (mem0 o) (o + k) = get (codeO o) k := by
  have l1 : ((mulL [0] o).length : Int) = o := by rw [mulL_len]; simp; lia
  unfold mem0
  rw [get_l (by lia) (by rw [List.length_append, raw_len]; lia), get_r (by lia), l1, show o + k - o = k by lia, raw_eq]
theorem stk_get {o w i : Int} {M : List Int} (hM : M.length = 1120) (hw : 0 ≤ w ∧ w ≤ 1) (h0 : 0 ≤ i) : get (stk o M w) i = if i = 16 + w then 189 - 64 * w else if i = 446 - 64 * w then (o + 36) % 256 else if i = 447 - 64 * w then (o + 36) / 256 else get M i := by
  unfold stk
  rw [get_set h0 (by lia) (by rw [List.length_set, List.length_set]; lia), get_set h0 (by lia) (by rw [List.length_set]; lia), get_set h0 (by lia) (by lia)]
theorem Has.toF : ∀ {t : Tr} {k k' : Nat} {m : List Int}, Tr.Ok k t k' → k' ≤ 31 → (∀ v ∈ t.lv, 0 ≤ v ∧ v < 256) → Has m t → HasF (get m) t
  | .leaf i v, k, k', m, o, hk, hv, h => ⟨⟨by have := o.1; have := o.2; lia, hv v (.head _)⟩, h.1, h.2⟩
  | .node i l r, k, k', m, o, hk, hv, h => by
    obtain ⟨o1, k1, o2, o3⟩ := o
    have a := o2.num
    have b := o3.num
    have pr := r.lv_pos
    exact ⟨⟨by lia, by lia⟩, h.1, h.2.1, h.2.2.1.toF o2 (by lia) fun v q => hv v (List.mem_append_left _ q), h.2.2.2.toF o3 hk fun v q => hv v (List.mem_append_right _ q)⟩
/-- both trees, and where they begin -/
noncomputable def memT (o : Int) (T0 T1 : Tr) : List Int := (putT T1 ((putT T0 (mem0 o)).set (20 : Int).toNat (T0.id : Int))).set (21 : Int).toNat (T1.id : Int)
noncomputable def memN (o : Int) (T0 T1 : Tr) : List Int := stk o (stk o (memT o T0 T1) 0) 1
section
variable {o : Int} {T0 T1 : Tr} {k0 k1 : Nat}
theorem memT_len (ho : 512 ≤ o ∧ o ≤ 767) : (memT o T0 T1).length = 1120 := by unfold memT; rw [List.length_set, putT_len, List.length_set, putT_len, mem0_len o ho.1 ho.2]
theorem memN_len (ho : 512 ≤ o ∧ o ≤ 767) : (memN o T0 T1).length = 1120 := by unfold memN; rw [stk_len, stk_len, memT_len ho]
theorem memN_out (ho : 512 ≤ o ∧ o ≤ 767) {i : Int} (h0 : 0 ≤ i) (h : i ≠ 16 ∧ i ≠ 17 ∧ i ≠ 446 ∧ i ≠ 447 ∧ i ≠ 382 ∧ i ≠ 383) : get (memN o T0 T1) i = get (memT o T0 T1) i := by
  unfold memN
  rw [stk_get ((stk_len ..).trans (memT_len ho)) (by decide) h0, if_neg (by lia), if_neg (by lia), if_neg (by lia), stk_get (memT_len ho) (by decide) h0, if_neg (by lia), if_neg (by lia), if_neg (by lia)]
theorem memT_out (ho : 512 ≤ o ∧ o ≤ 767) (o0 : Tr.Ok 0 T0 k0) (o1 : Tr.Ok k0 T1 k1) (hk : k1 ≤ 31) {i : Int} (h0 : 0 ≤ i) (h : i < 1024) (h20 : i ≠ 20) (h21 : i ≠ 21) : get (memT o T0 T1) i = get (mem0 o) i := by
  have l0 := mem0_len o ho.1 ho.2
  have n1 := o1.num
  have l1 : ((putT T0 (mem0 o)).set (20 : Int).toNat (T0.id : Int)).length = 1120 := by rw [List.length_set, putT_len, l0]
  unfold memT
  rw [get_ne h0 (by decide) (by rw [putT_len]; lia) h21, putT_out o1 hk l1 h0 (fun j _ _ => ⟨by lia, by lia, by lia⟩), get_ne h0 (by decide) (by rw [putT_len]; lia) h20, putT_out o0 (by lia) l0 h0 (fun j _ _ => ⟨by lia, by lia, by lia⟩)]
theorem start_ok (ho : 512 ≤ o ∧ o ≤ 767) (o0 : Tr.Ok 0 T0 k0) (o1 : Tr.Ok k0 T1 k1) (hk : k1 ≤ 31) (l0 : T0.lv.length ≤ 5) (l1 : T1.lv.length ≤ 6) (v0 : ∀ v ∈ T0.lv, 0 < v ∧ v < 256) (v1 : ∀ v ∈ T1.lv, 0 < v ∧ v < 256) : Start o (memN o T0 T1) T0 T1 := by
  have hl := mem0_len o ho.1 ho.2
  have n0 := o0.num
  have n1 := o1.num
  have lp := T1.lv_pos
  have la : ((putT T0 (mem0 o)).set (20 : Int).toNat (T0.id : Int)).length = 1120 := by rw [List.length_set, putT_len, hl]
  have lb : (putT T1 ((putT T0 (mem0 o)).set (20 : Int).toNat (T0.id : Int))).length = 1120 := (putT_len ..).trans la
  have h0 : Has (putT T0 (mem0 o)) T0 := putT_has o0 (by lia) hl fun j h1 h2 => mem0_get ho (by lia) (by lia)
  have z1 : ∀ j : Nat, k0 < j → j ≤ 31 → get ((putT T0 (mem0 o)).set (20 : Int).toNat (T0.id : Int)) (1056 + (j : Int)) = 0 := fun j h1 h2 => by
    rw [get_ne (by lia) (by decide) (by rw [putT_len]; lia) (by lia), putT_out o0 (by lia) hl (by lia) (fun y h3 h4 => ⟨by lia, by lia, by lia⟩)]
    exact mem0_get ho (by lia) (by lia)
  have h1 : Has (putT T1 ((putT T0 (mem0 o)).set (20 : Int).toNat (T0.id : Int))) T1 := putT_has o1 hk la z1
  have up : ∀ i : Int, 1024 ≤ i → get (memN o T0 T1) i = get (putT T1 ((putT T0 (mem0 o)).set (20 : Int).toNat (T0.id : Int))) i := fun i hi => by
    rw [memN_out ho (by lia) (by lia)]
    exact get_ne (by lia) (by decide) (by lia) (by lia)
  have t0 : Has (memN o T0 T1) T0 := by
    refine h0.keep o0 fun j a b => ?_
    have e : ∀ i : Int, 1024 ≤ i → Out_ k0 k1 i → get (memN o T0 T1) i = get (putT T0 (mem0 o)) i := fun i hi q => by
      rw [up i hi, putT_out o1 hk la (by lia) q, get_ne (by lia) (by decide) (by rw [putT_len]; lia) (by lia)]
    exact ⟨e (1024 + (j : Int)) (by lia) fun y a b => ⟨by lia, by lia, by lia⟩, e (1056 + (j : Int)) (by lia) fun y a b => ⟨by lia, by lia, by lia⟩, e (1088 + (j : Int)) (by lia) fun y a b => ⟨by lia, by lia, by lia⟩⟩
  have t1 : Has (memN o T0 T1) T1 := h1.keep o1 fun j a b => ⟨up (1024 + (j : Int)) (by lia), up (1056 + (j : Int)) (by lia), up (1088 + (j : Int)) (by lia)⟩
  have low : ∀ i : Int, 0 ≤ i → i < 1024 → (i ≠ 16 ∧ i ≠ 17 ∧ i ≠ 446 ∧ i ≠ 447 ∧ i ≠ 382 ∧ i ≠ 383) → i ≠ 20 → i ≠ 21 → get (memN o T0 T1) i = get (mem0 o) i := fun i h0 h1 h2 h3 h4 => by
    rw [memN_out ho h0 h2, memT_out ho o0 o1 hk h0 h1 h3 h4]
  have s2 := fun (i : Int) (hi : 0 ≤ i) => stk_get (o := o) (w := 1) (M := stk o (memT o T0 T1) 0) ((stk_len ..).trans (memT_len ho)) (by decide) hi
  have s1 := fun (i : Int) (hi : 0 ≤ i) => stk_get (o := o) (w := 0) (M := memT o T0 T1) (memT_len ho) (by decide) hi
  refine ⟨⟨⟨ho, memN_len ho, fun k a b => ?_⟩, t0.toF o0 (by lia) (fun v h => by have := v0 v h; lia), t1.toF o1 hk (fun v h => by have := v1 v h; lia), ?_, ?_⟩, ?_, ?_, ?_, ?_, ?_, ?_, ?_, ?_, ⟨T0.lv_pos, l0⟩, ⟨lp, l1⟩, v0, v1⟩
  · rw [low _ (by lia) (by lia) (by lia) (by lia) (by lia)]
    exact mem0_code ho a b
  · rw [memN_out ho (by decide) (by decide)]
    unfold memT
    rw [get_ne (by decide) (by decide) (by lia) (by decide), putT_out o1 hk la (by decide) (fun j _ _ => ⟨by lia, by lia, by lia⟩)]
    exact get_eq (by decide) (by rw [putT_len]; lia)
  · rw [memN_out ho (by decide) (by decide)]
    exact get_eq (by decide) (by lia)
  · exact (s2 16 (by decide)).trans (by rw [if_neg (by decide), if_neg (by decide), if_neg (by decide), s1 16 (by decide), if_pos (by decide)]; rfl)
  · exact (s2 17 (by decide)).trans (by rw [if_pos (by decide)]; rfl)
  · rw [low 7 (by decide) (by decide) (by decide) (by decide) (by decide)]; exact mem0_get ho (by decide) (by lia)
  · rw [low 8 (by decide) (by decide) (by decide) (by decide) (by decide)]; exact mem0_get ho (by decide) (by lia)
  · exact (s2 446 (by decide)).trans (by rw [if_neg (by decide), if_neg (by decide), if_neg (by decide), s1 446 (by decide), if_neg (by decide), if_pos (by decide)])
  · exact (s2 447 (by decide)).trans (by rw [if_neg (by decide), if_neg (by decide), if_neg (by decide), s1 447 (by decide), if_neg (by decide), if_neg (by decide), if_pos (by decide)])
  · exact (s2 382 (by decide)).trans (by rw [if_neg (by decide), if_pos (by decide)])
  · exact (s2 383 (by decide)).trans (by rw [if_neg (by decide), if_neg (by decide), if_pos (by decide)])
end
theorem L0_len (D : List Int) : (L0 D).length = (n0 D).toNat := by
  unfold L0
  rw [List.filterMap_eq_map' (f := fun k => lf D k), List.length_map, rints_len]
theorem L0_val (D : List Int) : ∀ v ∈ L0 D, 0 < v ∧ v < 256 := by
  intro v hv
  unfold L0 at hv
  obtain ⟨k, _, h⟩ := List.mem_filterMap.mp hv
  cases h
  have := fmod_lt (D.getD (5 + k).toNat 0) (n := 255) (by decide)
  unfold lf
  lia
theorem L1_ok {D A : List Int} (h0 : 1 ≤ A.length) (h1 : A.length ≤ 5) (hv : ∀ v ∈ A, 0 < v ∧ v < 256) : (1 ≤ (L1 D A).length ∧ (L1 D A).length ≤ 6) ∧ ∀ v ∈ L1 D A, 0 < v ∧ v < 256 := by
  have hc := fmod_lt (D.getD (2 : Int).toNat 0) (n := (A.length : Int)) (by lia)
  have hc' : 0 ≤ chO D A ∧ chO D A < A.length := hc
  unfold L1
  split
  · refine ⟨by rw [List.length_set]; lia, fun v h => ?_⟩
    rcases List.mem_or_eq_of_mem_set h with h | h
    · exact hv v h
    · have hi : (chO D A).toNat < A.length := by lia
      have e : A.getD (chO D A).toNat 0 = A[(chO D A).toNat] := by rw [List.getD_eq_getElem?_getD, List.getElem?_eq_getElem hi]; rfl
      have := hv _ (List.getElem_mem hi)
      rw [h, e]
      lia
  · split
    · refine ⟨by rw [List.length_append]; simp; lia, fun v h => ?_⟩
      rcases List.mem_append.mp h with h | h
      · exact hv v h
      · have := fmod_lt (D.getD (2 : Int).toNat 0) (n := 255) (by decide)
        rw [List.mem_singleton.mp h]
        lia
    · split
      · exact ⟨by rw [List.length_take]; lia, fun v h => hv v (List.mem_of_mem_take h)⟩
      · exact ⟨⟨h0, by lia⟩, hv⟩
section
variable (D A B M P : List Int) (o k g sm v0 v1 : Int)
noncomputable abbrev sJ (D A B : List Int) (o : Int) (M : List Int) (k : Int) (P : List Int) (g v0 v1 sm : Int) (ls : List (Option AV)) : S := sH D A B o M k P g [v0, v1] [] (some (.int sm) :: ls)
theorem s24a : LS (lst 24) (sJ D A B o M k P g v0 v1 sm []) [.b true] = some (.next, sJ D A B o M k P g v0 v1 sm [some (.cint 49)], [], [(sm == 1) = true]) := by kernel_rfl
theorem s24b (b c : Bool) : LS (lst 24) (sJ D A B o M k P g v0 v1 sm []) [.b false, .b b, .b c] = some (.next, sJ D A B o M k P g v0 v1 sm [some (.cint (48 + (match b with | true => 1 | false => 0) + (match c with | true => 128 | false => 0)))], [], [(sm == 1) = false, InB 2 1, InB 2 0, decide (v0 < v1) = b, InB 2 1, InB 2 0, (256 : Int) ≠ 0, decide (127 < (v1 - v0).fmod 256) = c]) := by
  cases b <;> cases c <;> kernel_rfl
theorem sJ_w (i : Int) : WkLs (sJ D A B o M k P g v0 v1 sm [some (.cint i)]).locs (sJ D A B o M k P g v0 v1 sm [some (.int i)]).locs := ln_wk (.none (.some .refl (.none (.none (.some .refl (.some .refl (.none (.none (.some .refl (.some .refl (.none (.none (.none (.none (.none (.some .refl (.some .intC .nil)))))))))))))))))
end
theorem inb0 : InB (2 : Int) 0 := ⟨by decide, by decide, by decide⟩
theorem inb1 : InB (2 : Int) 1 := ⟨by decide, by decide, by decide⟩
theorem s24 {D A B M P : List Int} {o k g v0 v1 : Int} (h : v0 = v1 ↔ A = B) : EvS pw K fL 40 (lst 24) (sJ D A B o M k P g v0 v1 (sameI A B) []) .next (sJ D A B o M k P g v0 v1 (sameI A B) [some (.int (fl v0 v1))]) := by
  by_cases e : v0 = v1
  · have e2 : sameI A B = 1 := if_pos (h.mp e)
    have e3 : fl v0 v1 = 49 := if_pos e
    rw [e3]
    exact (LS_ok (s24a D A B M P o k g (sameI A B) v0 v1) (gcons (by rw [e2]; rfl) g0)).wk .refl (sJ_w D A B M P o k g (sameI A B) v0 v1 49) rfl
  · have e2 : sameI A B = 0 := if_neg fun q => e (h.mpr q)
    have e4 : (v1 - v0).fmod 256 = (v1 - v0) % 256 := Int.fmod_eq_emod_of_nonneg _ (by decide)
    have e3 : fl v0 v1 = 48 + (match decide (v0 < v1) with | true => 1 | false => 0) + (match decide (127 < (v1 - v0).fmod 256) with | true => 128 | false => 0) := by
      unfold fl Pc Pf
      rw [if_neg e, e4, beq_eq_false_iff_ne.mpr (Ne.symm e), show decide (v0 ≤ v1) = decide (v0 < v1) from decide_eq_decide.mpr (by lia), show decide (128 ≤ (v1 - v0) % 256) = decide (127 < (v1 - v0) % 256) from decide_eq_decide.mpr (by lia)]
      cases decide (v0 < v1) <;> cases decide (127 < (v1 - v0) % 256) <;> rfl
    rw [e3]
    exact (LS_ok (s24b D A B M P o k g (sameI A B) v0 v1 (decide (v0 < v1)) (decide (127 < (v1 - v0).fmod 256))) (gcons (by rw [e2]; rfl) (gcons inb1 (gcons inb0 (gcons rfl (gcons inb1 (gcons inb0 (gcons ne256 (gcons rfl g0))))))))).wk .refl (sJ_w D A B M P o k g (sameI A B) v0 v1 _) rfl
noncomputable def initF : Fn := match fnOfDef 30 ((clsBody.drop 15).headD (.Pass default)) with
  | some F => { F with dV := .ref 29 }
  | none => nilFn
theorem init_at (P : Params) : (K P).lookup 36 = some initF.obj := by kernel_rfl
theorem init_a : initF.a = 36 := by kernel_rfl
theorem init_xs : initF.xs = [Str.ofString "self", Str.ofString "memory", Str.ofString "pc"] := by kernel_rfl
theorem init_code (P : Params) : codeIn (K P) initF.cd initF.qual = true := by kernel_rfl
theorem init_sc : scOk initF = true := by kernel_rfl
noncomputable def initMk (vs : List Value) : Args := ⟨vs.take 1, [Str.ofString "memory", Str.ofString "pc"].zip (vs.drop 1)⟩
theorem init_at29 (P : Params) : (K P).lookup 29 = some (⟨.type "tuple", none, .seq [.none, .int 0 238].toArray 0, #[]⟩ : Obj) := by kernel_rfl
theorem init_bind (P : Params) (v w x : Value) (s : Shared) (X : (K P).In s.heap) : BindsTo s initF.data (initMk [v, w, x]) (initF.xs.zip [v, w, x]) := by
  refine binds_K X (T := 29) (items := [.none, .int 0 238].toArray) (n := 0) rfl (init_at29 P) rfl rfl ?_
  kernel_rfl
theorem len3 {α : Type} {vs : List α} (h : vs.length = 3) : ∃ v w x, vs = [v, w, x] := by
  rcases vs with _ | ⟨v, _ | ⟨w, _ | ⟨x, _ | ⟨y, vs⟩⟩⟩⟩
  · cases h
  · cases h
  · cases h
  · exact ⟨v, w, x, rfl⟩
  · simp at h
theorem init_fn : FnA K initF initMk := by
  have s := init_sc
  unfold scOk at s
  simp only [Bool.and_eq_true, Bool.not_eq_true', beq_iff_eq, decide_eq_true_eq, List.all_eq_true, bne_iff_ne] at s
  obtain ⟨⟨⟨⟨⟨⟨s1, s2⟩, s3⟩, s4⟩, s5⟩, s6⟩, s7⟩ := s
  refine ⟨fun P => init_a ▸ init_at P, init_code, fun P vs st hv X => ?_, s1, s6, s2, s3, s4, s5⟩
  rw [init_xs] at hv
  obtain ⟨v, w, x, rfl⟩ := len3 hv
  exact init_bind P v w x st X
noncomputable def atsI (i : Nat) (o : Int) : List (Str × AV) := [(Str.ofString "name", .str (Str.ofString "6502")), (Str.ofString "byteMask", .cint 255), (Str.ofString "addrMask", .cint 65535), (Str.ofString "addrHighMask", .cint 65280), (Str.ofString "spBase", .cint 256), (Str.ofString "excycles", .cint 0), (Str.ofString "addcycles", .cb false), (Str.ofString "processorCycles", .cint 0), (Str.ofString "memory", .obj i), (Str.ofString "start_pc", .int o), (Str.ofString "pc", .int o), (Str.ofString "sp", .cint 255), (Str.ofString "a", .cint 0), (Str.ofString "x", .cint 0), (Str.ofString "y", .cint 0), (Str.ofString "p", .cint 48)]
noncomputable abbrev fI : Fx := ⟨initF.cs, true⟩
noncomputable def gI : List Prop := [(0 : Int) ≤ 8, (8 : Int) ≤ 1000000, (1 : Int).natAbs < 2 ^ 64, (0 : Int) ≤ 16, (16 : Int) ≤ 1000000, (1 : Int).natAbs < 2 ^ 64, (0 : Int) ≤ 8, (8 : Int) ≤ 1000000, (255 : Int).natAbs < 2 ^ 64, (0 : Int) ≤ 8, (8 : Int) ≤ 1000000, (1 : Int).natAbs < 2 ^ 64]
theorem gI_ok : ∀ p ∈ gI, p := by
  unfold gI
  exact gcons (by decide) (gcons (by decide) (gcons (by decide) (gcons (by decide) (gcons (by decide) (gcons (by decide) (gcons (by decide) (gcons (by decide) (gcons (by decide) (gcons (by decide) (gcons (by decide) (gcons (by decide) g0)))))))))))
theorem init_ev (N : List Int) (o : Int) : lawB pw K 30 U4 (LE 29) fI initF.body ⟨[.il N, .attrs [], .inst 1428 1], locs0 initF.xs [.obj 2, .obj 0, .int o] initF.rest, []⟩ [] = some (.next, ⟨[.il N, .attrs (atsI 0 o), .inst 1428 1], locs0 initF.xs [.obj 2, .obj 0, .int o] initF.rest, []⟩, [], gI) := by kernel_rfl
theorem init_call (N : List Int) (o : Int) : CallA pw K initMk 30 36 [.obj 2, .obj 0, .int o] [.il N, .attrs [], .inst 1428 1] (.val .none) [.il N, .attrs (atsI 0 o), .inst 1428 1] := by
  have h := callA_of (args := [.obj 2, .obj 0, .int o]) init_fn (by rw [init_xs]; rfl) (lawB_ok U4_ok (lawN_ok U4_ok 29) (init_ev N o) gI_ok) rfl rfl
  rw [init_a] at h
  exact h
noncomputable abbrev sP (D A B : List Int) (o : Int) (M : List Int) (k : Int) (P : List Int) (g v0 v1 sm f : Int) (X : List AO) (ls : List (Option AV)) : S := sH D A B o M k P g [v0, v1] X (some (.int sm) :: some (.int f) :: ls)
noncomputable def callKs (e : Expr) : List Keyword := (ePt e).2.2.2.1
noncomputable def kwE (i : Nat) (l : List Keyword) : Expr := match l.drop i with
  | ⟨_, e, _⟩ :: _ => e
  | [] => .Constant .none 0 default
noncomputable def kwP (i : Nat) (l : List Keyword) : Pos := match l.drop i with
  | ⟨_, _, p⟩ :: _ => p
  | [] => default
theorem s25v : valE (lst 25) = .Call (callF (valE (lst 25))) [] [⟨some (Str.ofString "memory"), kwE 0 (callKs (valE (lst 25))), kwP 0 (callKs (valE (lst 25)))⟩, ⟨some (Str.ofString "pc"), kwE 1 (callKs (valE (lst 25))), kwP 1 (callKs (valE (lst 25)))⟩] (callP (valE (lst 25))) := by kernel_rfl
section
variable (D A B M P : List Int) (o k g v0 v1 sm f : Int)
theorem s25f : LXd 29 fL (callF (valE (lst 25))) (sP D A B o M k P g v0 v1 sm f [] []) [] = some (.val (.ref 1428), sP D A B o M k P g v0 v1 sm f [] [], [], []) := by kernel_rfl
theorem s25m : LXd 29 fL (kwE 0 (callKs (valE (lst 25)))) (sP D A B o M k P g v0 v1 sm f [] []) [] = some (.obj 15, sP D A B o M k P g v0 v1 sm f [] [], [], []) := by kernel_rfl
theorem s25p : LXd 29 fL (kwE 1 (callKs (valE (lst 25)))) (sP D A B o M k P g v0 v1 sm f [] []) [] = some (.int o, sP D A B o M k P g v0 v1 sm f [] [], [], []) := by kernel_rfl
theorem s25o : frameO [15, 25, 26] ((sP D A B o M k P g v0 v1 sm f [] []).objs ++ [.attrs [], .inst 1428 25]) [.il M, .attrs (atsI 0 o), .inst 1428 1] = (sP D A B o M k P g v0 v1 sm f [.attrs (atsI 15 o), .inst 1428 25] []).objs := by kernel_rfl
end
theorem s25keep (P : Params) : keepIn (K P) (.ref 1428) = true := by kernel_rfl
theorem s25makes (P : Params) : makesIn (K P) 1428 = true := by kernel_rfl
theorem s25find (P : Params) : findIn (K P) (.ref 1428) "__init__" = some (some (.ref 36)) := by kernel_rfl
theorem s25ty (P : Params) : typeIn (K P) (.ref 36) = some (.type "function") := by kernel_rfl
theorem s25pf : plainFun (callF (valE (lst 25))) = true := by kernel_rfl
theorem call_eqK {fe : Expr} {kws : List Keyword} {pos : Pos} (h : plainFun fe = true) (env : Env) : eval (.Call fe [] kws pos) env = (do callWith pos (← eval fe env) [] (backTo pos (starEach [] env)) (backToKw pos (keywordEach kws env))) := by
  cases fe <;> first | rfl | cases h
theorem CallA.frm {mk : List Value → Args} {d : Nat} {fa : Addr} {args argsB : List AV} {objs objsS objsS' objs' : List AO} {x x' : AV} {sel : List Nat} (h : CallA pw K mk d fa args objsS x objsS') (hs : selOk 0 objs.length sel = true) (hren : renOs sel objs sel = some objsS) (hargs : renVs sel argsB = some args) (hlen : Nat.ble sel.length objsS'.length = true)
    (hx : embV (back sel objs.length) x = x') (ho : frameO sel objs objsS' = objs') : CallA pw K mk d fa argsB objs x' objs' := by
  obtain ⟨h1, _, h3⟩ := selOk_of hs
  have := CallA.frame h h1 h3 hren hargs (Nat.le_of_ble_eq_true hlen)
  rw [hx] at this
  unfold frameO at ho
  rw [ho] at this
  exact this
section
variable (D A B M P : List Int) (o k g v0 v1 sm f : Int)
theorem s25c : CallA pw K initMk 30 36 [.obj 26, .obj 15, .int o] ((sP D A B o M k P g v0 v1 sm f [] []).objs ++ [.attrs [], .inst 1428 25]) (.val .none) (sP D A B o M k P g v0 v1 sm f [.attrs (atsI 15 o), .inst 1428 25] []).objs :=
  (init_call M o).frm (sel := [15, 25, 26]) rfl rfl rfl rfl rfl (s25o D A B M P o k g v0 v1 sm f)
theorem s25e : EvE pw K fL 39 (valE (lst 25)) (sP D A B o M k P g v0 v1 sm f [] []) (.obj 26) (sP D A B o M k P g v0 v1 sm f [.attrs (atsI 15 o), .inst 1428 25] []) := by
  rw [s25v]
  exact .make (d := 30) rfl (LXd_ok (s25f D A B M P o k g v0 v1 sm f) g0) (.cons (LXd_ok (s25m D A B M P o k g v0 v1 sm f) g0) (.cons (LXd_ok (s25p D A B M P o k g v0 v1 sm f) g0) .nil)) (call_eqK s25pf) s25keep s25makes s25find s25ty (s25c D A B M P o k g v0 v1 sm f) (by decide)
theorem s25k : LS (lst 25) (sP D A B o M k P g v0 v1 sm f [] []) [.e (.obj 26) (sP D A B o M k P g v0 v1 sm f [.attrs (atsI 15 o), .inst 1428 25] [])] = some (.next, sP D A B o M k P g v0 v1 sm f [.attrs (atsI 15 o), .inst 1428 25] [some (.obj 26)], [], [EvE pw K fL 39 (valE (lst 25)) (sP D A B o M k P g v0 v1 sm f [] []) (.obj 26) (sP D A B o M k P g v0 v1 sm f [.attrs (atsI 15 o), .inst 1428 25] [])]) := by kernel_rfl
theorem s25 : EvS pw K fL 40 (lst 25) (sP D A B o M k P g v0 v1 sm f [] []) .next (sP D A B o M k P g v0 v1 sm f [.attrs (atsI 15 o), .inst 1428 25] [some (.obj 26)]) := LS_ok (s25k D A B M P o k g v0 v1 sm f) (gcons (s25e D A B M P o k g v0 v1 sm f) g0)
end
noncomputable def atsM (m : M) (st : Int) : List (Str × AV) := [(Str.ofString "name", .str (Str.ofString "6502")), (Str.ofString "byteMask", .cint 255), (Str.ofString "addrMask", .cint 65535), (Str.ofString "addrHighMask", .cint 65280), (Str.ofString "spBase", .cint 256), (Str.ofString "excycles", .any), (Str.ofString "addcycles", .top), (Str.ofString "processorCycles", .any), (Str.ofString "memory", .obj 15), (Str.ofString "start_pc", .int st), (Str.ofString "pc", .int m.pc), (Str.ofString "sp", .int m.sp), (Str.ofString "a", .int m.a), (Str.ofString "x", .int m.x), (Str.ofString "y", .int m.y), (Str.ofString "p", .int m.p)]
noncomputable abbrev sQ (D A B : List Int) (o : Int) (k : Int) (P : List Int) (g v0 v1 sm f : Int) (m : M) (r : Int) : S := sP D A B o m.mem k P g v0 v1 sm f [.attrs (atsM m o), .inst 1428 25] [some (.obj 26), some (.int r)]
theorem wk_ats (N : List Int) (o : Int) : WkO (.attrs (atsI 15 o)) (.attrs (atsM ⟨0, 0, 0, 255, 48, o, N⟩ o)) :=
  WkEs.attrs (.cons .refl (.cons .refl (.cons .refl (.cons .refl (.cons .refl (.cons .anyC (.cons .top (.cons .anyC (.cons .refl (.cons .refl (.cons .refl (.cons .intC (.cons .intC (.cons .intC (.cons .intC (.cons .intC .nil))))))))))))))))
section
variable (D A B M P : List Int) (o k g v0 v1 sm f : Int)
theorem s26k : LS (lst 26) (sP D A B o M k P g v0 v1 sm f [.attrs (atsI 15 o), .inst 1428 25] [some (.obj 26)]) [] = some (.next, sP D A B o M k P g v0 v1 sm f [.attrs (atsI 15 o), .inst 1428 25] [some (.obj 26), some (.cint 0)], [], []) := by kernel_rfl
theorem s26w : WkLs (sP D A B o M k P g v0 v1 sm f [.attrs (atsI 15 o), .inst 1428 25] [some (.obj 26), some (.cint 0)]).locs (sQ D A B o k P g v0 v1 sm f ⟨0, 0, 0, 255, 48, o, M⟩ 0).locs := ln_wk (.none (.some .refl (.none (.none (.some .refl (.some .refl (.none (.none (.some .refl (.some .refl (.none (.none (.none (.none (.none (.some .refl (.some .refl (.some .refl (.some .intC .nil)))))))))))))))))))
theorem s26 : EvS pw K fL 40 (lst 26) (sP D A B o M k P g v0 v1 sm f [.attrs (atsI 15 o), .inst 1428 25] [some (.obj 26)]) .next (sQ D A B o k P g v0 v1 sm f ⟨0, 0, 0, 255, 48, o, M⟩ 0) :=
  (LS_ok (s26k D A B M P o k g v0 v1 sm f) g0).wk (by iterate 25 refine .cons .refl ?_
                                                      exact .cons (wk_ats M o) .refl) (s26w D A B M P o k g v0 v1 sm f) rfl
end
section
variable (D A B P : List Int) (o k g v0 v1 sm f : Int) (m m' : M) (r : Int)
theorem stp_ren : renOs [15, 26, 25] (sQ D A B o k P g v0 v1 sm f m r).objs [15, 26, 25] = some (objM m o) := by kernel_rfl
theorem stp_out : frameO [15, 26, 25] (sQ D A B o k P g v0 v1 sm f m r).objs (objM m' o) = (sQ D A B o k P g v0 v1 sm f m' r).objs := by kernel_rfl
theorem stp_law (h : Stp m m') : CallT pw K 25 43 [.obj 26] (sQ D A B o k P g v0 v1 sm f m r).objs (.obj 26) (sQ D A B o k P g v0 v1 sm f m' r).objs :=
  (h o).frm (sel := [15, 26, 25]) rfl (stp_ren D A B P o k g v0 v1 sm f m r) rfl rfl rfl (stp_out D A B P o k g v0 v1 sm f m m' r)
end
noncomputable def st27 (i : Nat) : Stmt := stA (bodyOf (lst 27)) i
noncomputable def atO (e : Expr) : Expr := (ePt (ePt e).1).1
noncomputable def atP (e : Expr) : Pos := (ePt (ePt e).1).2.2.2.2.2
theorem q27st : st27 0 = .Expr (.Call (.Attribute (.Name (Str.ofString "mpu") (psOf (atO (exE (st27 0))))) (Str.ofString "step") (atP (exE (st27 0)))) [] [] (callP (exE (st27 0)))) (exP (st27 0)) := by kernel_rfl
theorem q27b : bodyOf (lst 27) = [st27 0, st27 1] := by kernel_rfl
theorem q27line : ((atP (exE (st27 0))).endLine == (callP (exE (st27 0))).line) = true := by kernel_rfl
theorem q27m (P : Params) : methName (K P) 1428 (Str.ofString "step") 43 = true := by kernel_rfl
theorem q27k (P : Params) : keepIn (K P) (.ref 43) = true := by kernel_rfl
theorem q27l (m : M) (st : Int) : look (Str.ofString "step") (atsM m st) = none := by kernel_rfl
theorem q27o : atO (exE (st27 0)) = .Name (Str.ofString "mpu") (psOf (atO (exE (st27 0)))) := by kernel_rfl
section
variable (D A B P : List Int) (o k g v0 v1 sm f : Int) (m m' : M) (r : Int)
theorem q27n : LX (atO (exE (st27 0))) (sQ D A B o k P g v0 v1 sm f m r) [] = some (.obj 26, sQ D A B o k P g v0 v1 sm f m r, [], []) := by kernel_rfl
theorem q27a : LS (st27 1) (sQ D A B o k P g v0 v1 sm f m r) [] = some (.next, sQ D A B o k P g v0 v1 sm f m (r + 1), [], []) := by kernel_rfl
theorem q27s (h : Stp m m') : EvS pw K fL 40 (st27 0) (sQ D A B o k P g v0 v1 sm f m r) .next (sQ D A B o k P g v0 v1 sm f m' r) := by
  have e1 := LX_ok (q27n D A B P o k g v0 v1 sm f m r) g0
  rw [q27o] at e1
  rw [q27st]
  have hn : ∀ e ∈ ([] : List Expr), notStar e = true := fun _ h => nomatch h
  exact .expr (.callMeth (es := []) rfl e1 hn _ (fun env => meth_eq (es := []) hn (by decide) q27line) rfl rfl (q27l m o) q27m .nil q27k ((stp_law D A B P o k g v0 v1 sm f m m' r h).more (by decide))) fun _ => swaps_plain rfl
theorem q27 (h : Stp m m') : EvB pw K fL 40 (bodyOf (lst 27)) (sQ D A B o k P g v0 v1 sm f m r) .next (sQ D A B o k P g v0 v1 sm f m' (r + 1)) := by
  rw [q27b]
  exact .cons (q27s D A B P o k g v0 v1 sm f m m' r h) (.cons (LS_ok (q27a D A B P o k g v0 v1 sm f m' r) g0) .nil)
theorem l27t : LT (testOf (lst 27)) (sQ D A B o k P g v0 v1 sm f m r) [.b true, .b true] = some (true, sQ D A B o k P g v0 v1 sm f m r, [], [(m.pc != spt (Str.ofString "stop") o) = true, decide (r < 900) = true]) := by kernel_rfl
theorem l27f : LT (testOf (lst 27)) (sQ D A B o k P g v0 v1 sm f m r) [.b false] = some (false, sQ D A B o k P g v0 v1 sm f m r, [], [(m.pc != spt (Str.ofString "stop") o) = false]) := by kernel_rfl
end
theorem spt_stop (o : Int) : spt (Str.ofString "stop") o = o + 87 := (show spt (Str.ofString "stop") o = _ by kernel_rfl).trans (sp_stop o)
theorem l27w (D A B P : List Int) (o k g v0 v1 sm f : Int) : ∀ (n : Nat) (m m' : M) (r : Nat), Run (o + 87) n m m' → m'.pc = o + 87 → r + n ≤ 900 → While pw K fL 40 (testOf (lst 27)) (bodyOf (lst 27)) n (sQ D A B o k P g v0 v1 sm f m r) .next (sQ D A B o k P g v0 v1 sm f m' ((r + n : Nat) : Int))
  | _, m, _, r, .nil, hp, _ => .done (LT_ok (l27f D A B P o k g v0 v1 sm f m r) (gcons (by rw [hp, spt_stop]; exact bne_self_eq_false _) g0))
  | n + 1, m, m', r, .cons (m₁ := m₁) h q g', hp, hr => by
    have ih := l27w D A B P o k g v0 v1 sm f n m₁ m' (r + 1) g' hp (by lia)
    rw [show r + 1 + n = r + (n + 1) by lia] at ih
    exact .turn (LT_ok (l27t D A B P o k g v0 v1 sm f m r) (gcons (by rw [spt_stop]; exact bne_iff_ne.mpr q) (gcons (decide_eq_true (by lia)) g0))) (q27 D A B P o k g v0 v1 sm f m m₁ r h) (.inl rfl) ih
theorem s27st : lst 27 = .While (testOf (lst 27)) (bodyOf (lst 27)) [] (posOfS (lst 27)) := by kernel_rfl
theorem s27 (D A B P : List Int) (o k g v0 v1 sm f : Int) (n : Nat) (m m' : M) (h : Run (o + 87) n m m') (hp : m'.pc = o + 87) (hn : n ≤ 900) : EvS pw K fL 40 (lst 27) (sQ D A B o k P g v0 v1 sm f m 0) .next (sQ D A B o k P g v0 v1 sm f m' n) := by
  have w := l27w D A B P o k g v0 v1 sm f n m m' 0 h hp (by lia)
  rw [Nat.zero_add] at w
  rw [s27st]
  exact .while w
noncomputable abbrev sR (D A B : List Int) (o : Int) (k : Int) (P : List Int) (g v0 v1 sm f : Int) (m : M) (r : Int) (l : List AO) : S := sP D A B o m.mem k P g v0 v1 sm f (.attrs (atsM m o) :: .inst 1428 25 :: l) [some (.obj 26), some (.int r), some (.obj 27)]
noncomputable def seen (m : M) : List Int := [m.a, m.x, m.y, m.sp, m.p, m.pc]
section
variable (D A B P : List Int) (o k g v0 v1 sm f : Int) (m : M) (r : Int)
theorem s28k : LS (lst 28) (sQ D A B o k P g v0 v1 sm f m r) [] = some (.next, sR D A B o k P g v0 v1 sm f m r [.list [.int m.a, .int m.x, .int m.y, .int m.sp, .int m.p, .int m.pc]], [], []) := by kernel_rfl
theorem s28 : EvS pw K fL 40 (lst 28) (sQ D A B o k P g v0 v1 sm f m r) .next (sR D A B o k P g v0 v1 sm f m r [.il (seen m)]) :=
  (LS_ok (s28k D A B P o k g v0 v1 sm f m r) g0).wk (by iterate 27 refine .cons .refl ?_
                                                        exact .cons (wkInts (l := seen m)) .nil) .refl rfl
end
noncomputable def cmpLe (e : Expr) : Expr := (ePt e).1
noncomputable def p29 : CP := cpOf (cmpLe (testOf (lst 29)))
theorem p29e : cmpLe (testOf (lst 29)) = p29.e := by kernel_rfl
noncomputable def ct29 : Expr := match p29.ifs with
  | t :: _ => t
  | [] => p29.elt
theorem p29ifs : p29.ifs = [ct29] := by kernel_rfl
theorem p29it : plainIter p29.iter = true := by kernel_rfl
theorem p29c (σ : S) (h : σ.cells = cs8) : compOkB fL p29.scope p29.x [] σ.cells = true := by rw [h]; kernel_rfl
theorem s29t (ob : List AO) (k : Int) : LTd 37 (gOf fL p29.scope) ct29 (sT ob p29.x k []) [] = some (false, sT ob p29.x k [], [], []) := by kernel_rfl
section
variable (D A B P : List Int) (o k g v0 v1 sm f : Int) (m : M) (r : Int)
theorem s29i : LXd 37 fL p29.iter (sR D A B o k P g v0 v1 sm f m r [.il (seen m)]) [] = some (.obj 27, sR D A B o k P g v0 v1 sm f m r [.il (seen m)], [], []) := by kernel_rfl
theorem s29e : EvE pw K fL 38 (cmpLe (testOf (lst 29))) (sR D A B o k P g v0 v1 sm f m r [.il (seen m)]) (.obj 28) (sR D A B o k P g v0 v1 sm f m r [.il (seen m), .il []]) := by
  rw [p29e]
  exact .compLI (i := 27) (l := seen m) (F := fun _ => none) (cs := []) (LXd_ok (s29i D A B P o k g v0 v1 sm f m r) g0) rfl (p29c _ rfl) rfl (show 6 ≤ 60000 by decide) (fun k _ => turn_no p29ifs (s29t _ k) g0) p29it
theorem s29x : LS (lst 29) (sR D A B o k P g v0 v1 sm f m r [.il (seen m)]) [.e (.obj 28) (sR D A B o k P g v0 v1 sm f m r [.il (seen m), .il []]), .b false] = some (.next, sR D A B o k P g v0 v1 sm f m r [.il (seen m), .il [], .list []], [], [EvE pw K fL 38 (cmpLe (testOf (lst 29))) (sR D A B o k P g v0 v1 sm f m r [.il (seen m)]) (.obj 28) (sR D A B o k P g v0 v1 sm f m r [.il (seen m), .il []]), (!decide (([] : List Int) = [])) = false]) := by kernel_rfl
theorem s29 : EvS pw K fL 40 (lst 29) (sR D A B o k P g v0 v1 sm f m r [.il (seen m)]) .next (sR D A B o k P g v0 v1 sm f m r [.il (seen m), .il [], .list []]) :=
  LS_ok (s29x D A B P o k g v0 v1 sm f m r) (gcons (s29e D A B P o k g v0 v1 sm f m r) (gcons (by decide) g0))
end
noncomputable def retE (s : Stmt) : Expr := (sPt s).2.1
noncomputable def retP (s : Stmt) : Pos := (sPt s).2.2.2.2.2
noncomputable def boolEs (e : Expr) : List Expr := (ePt e).2.2.1
noncomputable def boolP (e : Expr) : Pos := (ePt e).2.2.2.2.2
noncomputable def rE (i : Nat) : Expr := match (boolEs (retE (lst 30))).drop i with
  | e :: _ => e
  | [] => .Constant .none 0 default
theorem s30st : lst 30 = .Return (some (.BoolOp .And [rE 0, rE 1] (boolP (retE (lst 30))))) (retP (lst 30)) := by kernel_rfl
noncomputable def expd (o v1 f : Int) : List Int := [v1, 253, 1, 255, f, spt (Str.ofString "stop") o]
section
variable (D A B P : List Int) (o k g v0 v1 sm f : Int) (m : M) (r : Int)
noncomputable abbrev sRR (D A B : List Int) (o : Int) (k : Int) (P : List Int) (g v0 v1 sm f : Int) (m : M) (r : Int) (l : List AO) : S := sR D A B o k P g v0 v1 sm f m r (.il (seen m) :: .il [] :: .list [] :: l)
theorem r0t : LXd 38 fL (rE 0) (sRR D A B o k P g v0 v1 sm f m r []) [] = some (.bool (decide (seen m = expd o v1 f)), sRR D A B o k P g v0 v1 sm f m r [.list [.int v1, .cint 253, .cint 1, .cint 255, .int f, .int (spt (Str.ofString "stop") o)]], [], [InB 2 1]) := by kernel_rfl
theorem rt1 (e : AO) : LXd 38 fL (rE 1) (sRR D A B o k P g v0 v1 sm f m r [e]) [] = some (.bool (decide (m.mem = P)), sRR D A B o k P g v0 v1 sm f m r [e], [], []) := by kernel_rfl
theorem s30 (h0 : seen m = expd o v1 f) (h1 : m.mem = P) : ∃ σ', σ'.objs[8]? = some (.tab ps16) ∧ EvS pw K fL 39 (lst 30) (sRR D A B o k P g v0 v1 sm f m r []) (.ret (.bool true)) σ' := by
  have e0 := LXd_ok (r0t D A B P o k g v0 v1 sm f m r) (gcons inb1 g0)
  rw [decide_eq_true h0] at e0
  have e1 := LXd_ok (rt1 D A B P o k g v0 v1 sm f m r (.list [.int v1, .cint 253, .cint 1, .cint 255, .int f, .int (spt (Str.ofString "stop") o)])) g0
  rw [decide_eq_true h1] at e1
  refine ⟨sRR D A B o k P g v0 v1 sm f m r [.list [.int v1, .cint 253, .cint 1, .cint 255, .int f, .int (spt (Str.ofString "stop") o)]], rfl, ?_⟩
  rw [s30st]
  exact .ret (.andC e0 rfl (.and1 e1))
end
noncomputable def badO : Obj := { cls := .none, data := .freed }
open Classical in
noncomputable def Kx (P₀ : Params) (a : Addr) (o : Obj) (P : Params) : Frag := if P = P₀ then (a, o) :: K P else [(0, badO)]
theorem bad_in {h : Heap} (x : Frag.In [(0, badO)] h) : False := by
  have := x 0 badO rfl
  have := (Heap.get?_some_iff.mp this).2
  exact nomatch this
theorem Kx_in {P₀ P : Params} {a : Addr} {o : Obj} {h : Heap} (x : (Kx P₀ a o P).In h) : P = P₀ ∧ h.get? a = some o := by
  unfold Kx at x
  split at x
  next e => exact ⟨e, x a o (by rw [List.lookup_cons]; simp)⟩
  next e => exact (bad_in x).elim
theorem Kx_of {P₀ : Params} {a : Addr} {o : Obj} {h : Heap} (x : (K P₀).In h) (e : h.get? a = some o) : (Kx P₀ a o P₀).In h := by
  unfold Kx
  rw [if_pos rfl]
  intro b o' hb
  rw [List.lookup_cons] at hb
  split at hb
  next q => cases hb; rw [eq_of_beq q]; exact e
  next => exact x b o' hb
/-- the list at a, if K keeps it, is the same -/
noncomputable def Same (P₀ : Params) (a : Addr) (o : Obj) : Prop := ∀ o', (K P₀).lookup a = some o' → o' = o
theorem Kx_K {P₀ P : Params} {a : Addr} {o : Obj} {h : Heap} (hs : Same P₀ a o) (x : (Kx P₀ a o P).In h) : (K P).In h := by
  obtain ⟨rfl, e⟩ := Kx_in x
  intro b o' hb
  by_cases q : b = a
  · subst q
    rw [hs o' hb]
    exact e
  · refine x b o' ?_
    unfold Kx
    rw [if_pos rfl, List.lookup_cons]
    have : (b == a) = false := by simpa using q
    rw [this]
    exact hb
theorem Ok.kx {f : Fx} {d : Nat} {c : Cx} {P₀ : Params} {a : Addr} {o : Obj} (hs : Same P₀ a o) (h : Ok (Kx P₀ a o) f d c) : Ok K f d c :=
  ⟨h.scope, h.globals, h.builtins, Kx_K hs h.kin, h.top, h.kind, h.depth, h.units, h.handled, h.fn, h.cmp⟩
section
variable {prog : Program} {K' : Params → Frag} {f : Fx} {d : Nat} {σ σ₁ σ₂ σ₃ : S}
theorem EvE.kx {P₀ : Params} {a : Addr} {o : Obj} (hs : Same P₀ a o) {e : Expr} {x : AV} (h : EvE prog K f d e σ x σ₁) : EvE prog (Kx P₀ a o) f d e σ x σ₁ := fun c ok => h c (ok.kx hs)
theorem EvE.sliceV {v : Expr} {lo hi : Option Expr} {p pos : Pos} {a : Addr} {vs : Array Value} {xs : List Int} {kl kh : Option Int} (h : EvE prog K' f d v σ (.val (.ref a)) σ₁) (h1 : EvP prog K' f d lo σ₁ kl σ₂) (h2 : EvP prog K' f d hi σ₂ kh σ₃) (hL : ∀ c, Ok K' f d c → c.h₀.IsList a vs) (hv : IntsAre vs.toList xs)
    (hz : xs.length ≤ 60000) (hg : ∀ p ∈ sliceG xs kl kh, p) : EvE prog K' f d (.Subscript v (.Slice lo hi none p) pos) σ (.obj σ₃.objs.length) { σ₃ with objs := σ₃.objs ++ [.il (sliceI xs kl kh)] } := by
  intro c ok as os m s Q E R hq
  refine Subscript_ (h c ok as os m s _ E R fun bs os₁ m₁ u s₁ ra R₁ => ?_)
  obtain rfl : u = .ref a := ra
  refine wpAny_Slice (h1 c ok _ os₁ m₁ s₁ _ E R₁ fun bs₂ os₂ m₂ vl s₂ pl R₂ => h2 c ok _ os₂ m₂ s₂ _ E R₂ fun bs₃ os₃ m₃ vh s₃ ph R₃ => ?_)
  refine wpAny_pure ?_
  have hl : s₃.heap.IsList a vs := by
    obtain ⟨o, ho, r⟩ := hL c ok
    exact ⟨o, R₃.fr.keep _ _ ho, r⟩
  have hsz : vs.size ≤ sizeLine := by
    have := hv.length
    rw [Array.length_toList] at this
    rw [this]
    exact Nat.le_trans hz (by decide +kernel)
  have hl' : (s₃.heap.push { cls := .type "slice", data := .fields #[vl, vh, .none] }).IsList a vs := hl.push _
  refine tail_any (ops := [.ref s₃.heap.objs.size, .ref a]) (Heap.IsList.typeIs (s := { s₃ with heap := s₃.heap.push { cls := .type "slice", data := .fields #[vl, vh, .none] } }) hl') slot_list_getitem.lookup
    (wpAny_getItem_list_slice hl' (Heap.IsSliceOf.new ..) pl ph .none (by simp) ?_ hsz) rfl
  have F1 := R₃.fr.push { cls := .type "slice", data := .fields #[vl, vh, .none] }
  have N1 : News c.h₀ c.L (s₃.heap.push { cls := .type "slice", data := .fields #[vl, vh, .none] }) _ := R₃.news.grown fun _ _ e => Heap.get?_push_of_some _ e
  obtain ⟨R₄, r₄⟩ := R₃.made (tk := s₃.toks) (a := s₃.heap.objs.size + 1) (o := listOf (slicePick vs kl kh none) 0) (ao := .il (sliceI xs kl kh)) (F1.push { cls := .type "list", data := .seq (slicePick vs kl kh none) }) (by
      have N2 := News.push F1 N1 { cls := .type "list", data := .seq (slicePick vs kl kh none) }
      rw [Heap.size_push] at N2
      exact N2) (fun p hp => Nat.lt_succ_of_lt (R₃.lt p hp)) ⟨_, _, rfl, slice_of hv hg⟩
  rw [List.append_assoc, List.append_assoc, List.append_assoc] at R₄ r₄
  show Q (.ref (s₃.heap.push _).objs.size) _
  rw [Heap.size_push]
  exact hq _ _ _ _ _ r₄ R₄
end
noncomputable def binL (e : Expr) : Expr := (ePt e).1
noncomputable def posE (e : Expr) : Pos := (ePt e).2.2.2.2.2
noncomputable def sliLo (e : Expr) : Expr := (ePt e).1
noncomputable def sliHi (e : Expr) : Expr := (ePt e).2.1
noncomputable def binR (e : Expr) : Expr := (ePt e).2.1
noncomputable def arg0 (e : Expr) : Expr := (callAs e).headD e
noncomputable def tgAs (s : Stmt) : Expr := (sPt s).1.headD nE
noncomputable def e0L : Expr := binL (valE (lst 0))
noncomputable def e0R : Expr := binR (valE (lst 0))
noncomputable def e0N : Expr := sliLo (subS e0R)
noncomputable def e0A : Expr := arg0 e0N
noncomputable def cutE (v s h : Expr) (p : Pos) : Expr := .Subscript v (.Slice none (some h) none (posE s)) p
theorem s0st : lst 0 = .Assign [.Name (Str.ofString "drawn") (posE (tgAs (lst 0)))] (.BinOp (cutE (.Name (Str.ofString "script") (posE (subV e0L))) (subS e0L) (sliHi (subS e0L)) (posE e0L)) .Add (.Subscript (subV e0R) (.Slice (some (.Call (callF e0N) [cutE (.Name (Str.ofString "script") (posE (subV e0A))) (subS e0A) (sliHi (subS e0A)) (posE e0A)] [] (callP e0N))) none none (posE (subS e0R))) (posE e0R)) (posE (valE (lst 0)))) (posOfS (lst 0)) := by kernel_rfl
section
variable (a : Addr)
noncomputable abbrev sI (c : Option AV) (l : List AO) : S := ⟨.cell none :: .cell none :: .cell none :: .cell none :: .cell none :: .cell none :: .cell none :: .cell c :: .tab [] :: l, lcs (some (.val (.ref a)) :: List.replicate 20 none), cs8⟩
theorem s0c : LX (sliHi (subS e0L)) (sI a none []) [] = some (.cint 10, sI a none [], [], []) := by kernel_rfl
theorem s0m (xs : List Int) : LX (subV e0R) (sI a none [.il xs]) [] = some (.obj 10, sI a none [.il xs, .list [.cint 4, .cint 2, .cint 7, .cint 1, .cint 2, .cint 50, .cint 60, .cint 70, .cint 80, .cint 90]], [], []) := by kernel_rfl
theorem s0c2 (xs ys : AO) : LX (sliHi (subS e0A)) (sI a none [xs, ys]) [] = some (.cint 10, sI a none [xs, ys], [], []) := by kernel_rfl
theorem s0n (xs ys : AO) : LX (callF e0N) (sI a none [xs, ys]) [] = some (.blt .len, sI a none [xs, ys], [], []) := by kernel_rfl
noncomputable def moreL : List Int := [4, 2, 7, 1, 2, 50, 60, 70, 80, 90]
noncomputable def drawn (ns : List Int) : List Int := ns.take (10 : Int).toNat ++ moreL.drop ((ns.take (10 : Int).toNat).length : Int).toNat
theorem s0k1 : look (Str.ofString "script") fL.cs.names = some .local := by kernel_rfl
theorem s0k2 : look (Str.ofString "drawn") fL.cs.names = some .cell := by kernel_rfl
theorem s0d : nd (Str.ofString "script") = true := by kernel_rfl
theorem s0p : plainFun (callF e0N) = true := by kernel_rfl
theorem s0l (l : List AO) : look (Str.ofString "script") (sI a none l).locs = some (some (.val (.ref a))) := by kernel_rfl
theorem s0w (l : List AO) : look (Str.ofString "drawn") (sI a none l).cells = some 7 := by kernel_rfl
theorem s0star : notStar (cutE (.Name (Str.ofString "script") (posE (subV e0A))) (subS e0A) (sliHi (subS e0A)) (posE e0A)) = true := by kernel_rfl
noncomputable abbrev sI2 (c : Option AV) (l : List AO) : S := stL none none none none none none none c [] l []
theorem s0wk (c : Option AV) (l : List AO) : WkLs (sI a c l).locs (sI2 c l).locs := by
  show WkLs (lnames.zip _) (ln [])
  unfold ln lcs
  exact WkA.zip (.none .refl) _
theorem s0sel (D xs ys zs ws : AO) : selOk (sI a none []).objs.length (sI2 (some (.obj 13)) [xs, ys, zs, ws, D]).objs.length [0, 1, 2, 3, 4, 5, 6, 7, 8, 13] = true := by kernel_rfl
end
theorem s0ren (D : List Int) (xs ys zs ws : AO) : renS [0, 1, 2, 3, 4, 5, 6, 7, 8, 13] (sI2 (some (.obj 13)) [xs, ys, zs, ws, .il D]) = some (A0 D [] []) := by kernel_rfl
theorem s0 {P₀ : Params} {a : Addr} {o : Obj} {vs : Array Value} {n : Nat} {ns : List Int} (hs : Same P₀ a o) (hc : o.cls = .type "list") (hd : o.data = .seq vs n) (hv : IntsAre vs.toList ns) (hn : ns.length ≤ 63) : EvS pw (Kx P₀ a o) fL 40 (lst 0) (sI a none []) .next (A0 (drawn ns) [] []) := by
  have hL : ∀ c, Ok (Kx P₀ a o) fL 40 c → c.h₀.IsList a vs := fun c ok => ⟨o, (Kx_in ok.kin).2, hc, n, hd⟩
  have cut : ∀ (l : List AO) (e h : Expr) (p p' : Pos), EvE pw (Kx P₀ a o) fL 40 h (sI a none l) (.cint 10) (sI a none l) → EvE pw (Kx P₀ a o) fL 40 (cutE (.Name (Str.ofString "script") p) e h p') (sI a none l) (.obj (l.length + 9)) (sI a none (l ++ [.il (ns.take (10 : Int).toNat)])) := fun l e h p p' hh =>
    .sliceV (σ₁ := sI a none l) (σ₂ := sI a none l) (σ₃ := sI a none l) (kl := none) (kh := some 10) (.loc (s0l a l) s0k1 s0d) .none (.some hh rfl) hL hv (by lia) (gcons (by decide) g0)
  have e1 := cut [] (subS e0L) (sliHi (subS e0L)) (posE (subV e0L)) (posE e0L) (EvE.kx hs (LX_ok (s0c a) g0))
  have e2 := EvE.kx hs (LX_ok (s0m a (ns.take (10 : Int).toNat)) g0)
  have e3 := cut [.il (ns.take (10 : Int).toNat), .list [.cint 4, .cint 2, .cint 7, .cint 1, .cint 2, .cint 50, .cint 60, .cint 70, .cint 80, .cint 90]] (subS e0A) (sliHi (subS e0A)) (posE (subV e0A)) (posE e0A) (EvE.kx hs (LX_ok (s0c2 a _ _) g0))
  have e4 := EvE.kx hs (LX_ok (s0n a (.il (ns.take (10 : Int).toNat)) (.list [.cint 4, .cint 2, .cint 7, .cint 1, .cint 2, .cint 50, .cint 60, .cint 70, .cint 80, .cint 90])) g0)
  generalize hx : ns.take (10 : Int).toNat = xs at *
  have hxl : xs.length ≤ 10 := by rw [← hx, List.length_take]; exact Nat.min_le_left _ _
  generalize hM : AO.list [.cint 4, .cint 2, .cint 7, .cint 1, .cint 2, .cint 50, .cint 60, .cint 70, .cint 80, .cint 90] = mo at *
  have hmo : intsO mo = some moreL := by rw [← hM]; rfl
  have e5 : EvE pw (Kx P₀ a o) fL 40 (.Call (callF e0N) [cutE (.Name (Str.ofString "script") (posE (subV e0A))) (subS e0A) (sliHi (subS e0A)) (posE e0A)] [] (callP e0N)) (sI a none [.il xs, mo]) (.int xs.length) (sI a none [.il xs, mo, .il xs]) :=
    .callV (b := .len) (σ₂ := sI a none [.il xs, mo, .il xs]) (xs := [.obj 11]) e4 (by intro e he; rw [List.mem_singleton.mp he]; exact s0star) (call_eq s0p) (.cons s0star e3 .nil) (blt_len (i := 11) (ao := .il xs) rfl rfl (by lia))
  have e6 : EvE pw (Kx P₀ a o) fL 40 (.Subscript (subV e0R) (.Slice (some (.Call (callF e0N) [cutE (.Name (Str.ofString "script") (posE (subV e0A))) (subS e0A) (sliHi (subS e0A)) (posE e0A)] [] (callP e0N))) none none (posE (subS e0R))) (posE e0R)) (sI a none [.il xs]) (.obj 12) (sI a none [.il xs, mo, .il xs, .il (moreL.drop (xs.length : Int).toNat)]) :=
    .slice (i := 10) (ao := mo) (xs := moreL) (kl := some (xs.length : Int)) (kh := none) (σ₃ := sI a none [.il xs, mo, .il xs]) e2 (.some e5 rfl) .none rfl hmo (by decide) (gcons (by lia) g0)
  have e7 := EvE.addL (i := 9) (j := 12) (pos := posE (valE (lst 0))) (ao := .il xs) (bo := .il (moreL.drop (xs.length : Int).toNat)) e1 e6 rfl rfl rfl rfl (by simp only [List.length_drop]; have : moreL.length = 10 := rfl; lia)
  have e8 := EvS.assignC (x := Str.ofString "drawn") (pos' := posE (tgAs (lst 0))) (pos := posOfS (lst 0)) (i := 7) (u := none) e7 (s0w a _) rfl s0k2 (fun env _ => swaps_plain rfl)
  rw [s0st]
  have e9 := e8.wk (σ'' := sI2 (some (.obj 13)) [.il xs, mo, .il xs, .il (moreL.drop (xs.length : Int).toNat), .il (xs ++ moreL.drop (xs.length : Int).toNat)]) .refl (s0wk a none []) rfl
  have e10 := e9.gc (sel := [0, 1, 2, 3, 4, 5, 6, 7, 8, 13]) (out' := .next) (s0sel a (.il (xs ++ moreL.drop (xs.length : Int).toNat)) (.il xs) mo (.il xs) (.il (moreL.drop (xs.length : Int).toNat))) (s0ren (xs ++ moreL.drop (xs.length : Int).toNat) (.il xs) mo (.il xs) (.il (moreL.drop (xs.length : Int).toNat))) rfl
  unfold drawn
  rw [hx]
  exact e10
theorem drawn_len (ns : List Int) : (drawn ns).length = 10 := by
  unfold drawn
  rw [List.length_append, List.length_drop, Int.toNat_natCast]
  exact Nat.add_sub_of_le (by rw [List.length_take]; exact Nat.min_le_left _ _)
noncomputable def gA : List Stmt := [lst 4, lst 5, lst 6, lst 7, lst 8]
noncomputable def gB : List Stmt := [lst 10, lst 11, lst 12, lst 13, lst 14]
noncomputable def gC : List Stmt := [lst 17, lst 18, lst 19, lst 20, lst 21, lst 22, lst 23, lst 24, lst 25, lst 26, lst 27, lst 28, lst 29, lst 30]
theorem law_list : lawF.body = lst 0 :: lst 1 :: ([lst 2, lst 3] ++ (gA ++ (lst 9 :: (gB ++ (lst 15 :: lst 16 :: gC))))) := by kernel_rfl
theorem EvS.from {K : Params → Frag} {c : Cx} {as0 : List Addr} {st : Stmt} {σ σ' : S} {out : Out} (h : EvS pw K fL 40 st σ out σ') (ok : Ok K fL 40 c) : DoesFrom pw c as0 (exec st c.env) σ out σ' := by
  unfold EvS at h
  unfold DoesFrom
  intro bs os m s Q E R hq
  refine h c ok _ os m s Q E R fun bs' os' m' v s' rv R' => ?_
  rw [List.append_assoc] at rv R'
  exact hq _ _ _ _ _ rv R'
section
variable {D A B : List Int} {o : Int}
theorem gA_ok (c : Int) (hD : D.length = 10) (ho : org D = o) (h1 : 512 ≤ o ∧ o ≤ 767) : EvB pw K fL 40 gA (A2 D A [.il B] (some (.obj 12)) (some (.int c))) .next (stM (some (.obj 16)) (some (.obj 15)) none D A B o [.il (mem0 o), .il [0]] []) := by
  have t5 := s5 D A B hD
  rw [ho] at t5
  exact .cons (s4 D A B c) (.cons t5 (.cons (s6 D A B o) (.cons (s7 D A B o h1.1 h1.2) (.cons (s8 D A B (mem0 o) o) .nil))))
theorem gB_ok {T0 T1 : Tr} {k0 k1 : Nat} (hD : D.length = 10) (h1 : 512 ≤ o ∧ o ≤ 767) (hA : T0.lv = A) (hB : T1.lv = B)
    (c0 : CallG pw K cdC 27 [.obj 6, .obj 7, .int (D.getD (3 : Int).toNat 0)] (hS ((0 : Nat) : Int) (mem0 o) A) (.int T0.id) (hS k0 (putT T0 (mem0 o)) A))
    (c1 : CallG pw K cdC 27 [.obj 6, .obj 7, .int (D.getD (4 : Int).toNat 0)] (hS k0 ((putT T0 (mem0 o)).set (20 : Int).toNat (T0.id : Int)) B) (.int T1.id) (hS k1 (putT T1 ((putT T0 (mem0 o)).set (20 : Int).toNat (T0.id : Int))) B)) :
    EvB pw K fL 40 gB (stN none none none ps9 D A B o (mem0 o) 0 [] none []) .next (stW none none ps9 D A B o (memN o T0 T1) k1 (memN o T0 T1) [] none [none, none]) := by
  have l0 := mem0_len o h1.1 h1.2
  have t10 := s10 (B := B) (o := o) (r := T0.id) hD (by rw [putT_len, l0]; decide) (c0.more (d' := 38) (by decide))
  have t11 := s11 (A := A) (o := o) (r := T1.id) hD (by rw [putT_len, List.length_set, putT_len, l0]; decide) (c1.more (d' := 38) (by decide))
  have lT := memT_len (T0 := T0) (T1 := T1) h1
  have t13 := s13 (D := D) (A := A) (B := B) (M := memT o T0 T1) (o := o) (k := k1) lT
  exact .cons t10 (.cons t11 (.cons (s12 D A B _ o k1) (.cons t13 (.cons (s14 D A B _ o k1 (memN_len h1)) .nil))))
theorem gC_ok {N : List Int} {k : Int} {T0 T1 : Tr} (H : Start o N T0 T1) (hA : T0.lv = A) (hB : T1.lv = B) : ∃ σ', σ'.objs[8]? = some (.tab ps16) ∧ EvB pw K fL 40 gC (stP D A B o N k N [] none [none, none]) (.ret (.bool true)) σ' := by
  subst hA hB
  have hN := H.nm.cd.len
  obtain ⟨n, it0, it1, m', hn, j0, j1, hR, hm, hv⟩ := run_main H
  have t17 := s17 D T0.lv T1.lv N N o k
  have t18 := s18 D T0.lv T1.lv N N o k (by have := H.l0; lia) (by have := H.l1; lia)
  have t19 := s19 D T0.lv T1.lv N N o k (agr T0.lv T1.lv : Nat)
  have t20 := s20 (D := D) (A := T0.lv) (B := T1.lv) (M := N) (o := o) (k := k) hN (by have := H.l0; lia) H.l1.2 H.nm.t0 H.nm.t1 H.nm.c20 H.nm.c21 rfl j0 j1
  have lf : (finP o 1 T1 (finP o 0 T0 N it0) it1).length = 1120 := by rw [finP_len, finP_len, hN]
  have t21 := s21 D T0.lv T1.lv N (finP o 1 T1 (finP o 0 T0 N it0) it1) [it0.v, it1.v] o k (agr T0.lv T1.lv : Nat)
  have t22 := s22 (D := D) (A := T0.lv) (B := T1.lv) (M := N) (P := finP o 1 T1 (finP o 0 T0 N it0) it1) (o := o) (k := k) (g := (agr T0.lv T1.lv : Nat)) (sm := sameI T0.lv T1.lv) it0.v it1.v lf
  have t23 := s23 (D := D) (A := T0.lv) (B := T1.lv) (M := N) (P := five (finP o 1 T1 (finP o 0 T0 N it0) it1) it0.v it1.v (agr T0.lv T1.lv : Nat) (sameI T0.lv T1.lv)) (G := [it0.v, it1.v]) (o := o) (k := k) (g := (agr T0.lv T1.lv : Nat)) (sm := sameI T0.lv T1.lv) ((five_len ..).trans lf)
  have t24 := s24 (D := D) (M := N) (P := endP o T0 T1 N it0 it1 (agr T0.lv T1.lv : Nat) (sameI T0.lv T1.lv)) (o := o) (k := k) (g := (agr T0.lv T1.lv : Nat)) hv
  have t25 := s25 D T0.lv T1.lv N (endP o T0 T1 N it0 it1 (agr T0.lv T1.lv : Nat) (sameI T0.lv T1.lv)) o k (agr T0.lv T1.lv : Nat) it0.v it1.v (sameI T0.lv T1.lv) (fl it0.v it1.v)
  have t26 := s26 D T0.lv T1.lv N (endP o T0 T1 N it0 it1 (agr T0.lv T1.lv : Nat) (sameI T0.lv T1.lv)) o k (agr T0.lv T1.lv : Nat) it0.v it1.v (sameI T0.lv T1.lv) (fl it0.v it1.v)
  have t27 := s27 D T0.lv T1.lv (endP o T0 T1 N it0 it1 (agr T0.lv T1.lv : Nat) (sameI T0.lv T1.lv)) o k (agr T0.lv T1.lv : Nat) it0.v it1.v (sameI T0.lv T1.lv) (fl it0.v it1.v) n _ m' hR (by rw [hm]) hn
  have t28 := s28 D T0.lv T1.lv (endP o T0 T1 N it0 it1 (agr T0.lv T1.lv : Nat) (sameI T0.lv T1.lv)) o k (agr T0.lv T1.lv : Nat) it0.v it1.v (sameI T0.lv T1.lv) (fl it0.v it1.v) m' n
  have t29 := s29 D T0.lv T1.lv (endP o T0 T1 N it0 it1 (agr T0.lv T1.lv : Nat) (sameI T0.lv T1.lv)) o k (agr T0.lv T1.lv : Nat) it0.v it1.v (sameI T0.lv T1.lv) (fl it0.v it1.v) m' n
  obtain ⟨σ', h8, t30⟩ := s30 D T0.lv T1.lv (endP o T0 T1 N it0 it1 (agr T0.lv T1.lv : Nat) (sameI T0.lv T1.lv)) o k (agr T0.lv T1.lv : Nat) it0.v it1.v (sameI T0.lv T1.lv) (fl it0.v it1.v) m' n (by rw [hm]; unfold seen expd; rw [spt_stop]) (by rw [hm])
  exact ⟨σ', h8, .cons t17 (.cons t18 (.cons t19 (.cons t20 (.cons t21 (.cons t22 (.cons t23 (.cons t24 (.cons t25 (.cons t26 (.cons t27 (.cons t28 (.cons t29 (.stop (t30.more (Nat.le_succ _)) (fun h => nomatch h))))))))))))))⟩
end
/-- from the drawn numbers on -/
theorem tail_ok {c : Cx} {as0 : List Addr} (H : LawC c as0) (D : List Int) (hD : D.length = 10) : ∃ σ', σ'.objs[8]? = some (.tab ps16) ∧ DoesFrom pw c as0 (execs (lst 1 :: ([lst 2, lst 3] ++ (gA ++ (lst 9 :: (gB ++ (lst 15 :: lst 16 :: gC)))))) c.env) (A0 D [] []) (.ret (.bool true)) σ' := by
  have ok := H.ok
  have ho : 512 ≤ org D ∧ org D ≤ 767 := by
    have := fmod_lt (D.getD (3 : Int).toNat 0) (n := 256) (by decide)
    unfold org
    lia
  generalize hoo : org D = o at ho
  have nb := n0_bd D
  have la : (L0 D).length = (n0 D).toNat := L0_len D
  have va := L0_val D
  have t1 := s1 D hD
  generalize L0 D = A at *
  have a0 : 1 ≤ A.length := by lia
  have a1 : A.length ≤ 5 := by lia
  have t23 := s2_3 D A hD a0 a1
  obtain ⟨lb, vb⟩ := L1_ok (D := D) a0 a1 va
  generalize L1 D A = B at *
  have tA := gA_ok (D := D) (A := A) (B := B) (chO D A) hD hoo ho
  obtain ⟨T0, k0, o0, v0, c0⟩ := hang_call 5 A (D.getD (3 : Int).toNat 0) 0 (mem0 o) a0 (by lia) (by lia) (mem0_len o ho.1 ho.2)
  have n0 := o0.num
  rw [v0] at n0
  obtain ⟨T1, k1, o1, v1, c1⟩ := hang_call 5 B (D.getD (4 : Int).toNat 0) k0 ((putT T0 (mem0 o)).set (20 : Int).toNat (T0.id : Int)) lb.1 (by lia) (by lia) (by rw [List.length_set, putT_len]; exact mem0_len o ho.1 ho.2)
  have n1 := o1.num
  rw [v1] at n1
  have tB := gB_ok hD ho v0 v1 c0 c1
  have S := start_ok ho o0 o1 (by lia) (by rw [v0]; exact a1) (by rw [v1]; exact lb.2) (by rw [v0]; exact va) (by rw [v1]; exact vb)
  obtain ⟨σ', h8, tC⟩ := gC_ok (D := D) (k := k1) S v0 v1
  exact ⟨σ', h8, (t1.from ok).cons ((DoesFrom.of t23 ok).app ((DoesFrom.of tA ok).app ((s9 H D A B (mem0 o) o).cons ((DoesFrom.of tB ok).app ((s15 H D A B (memN o T0 T1) (memN o T0 T1) o k1).cons ((s16 H D A B (memN o T0 T1) (memN o T0 T1) o k1).cons (DoesFrom.of tC ok)))))))⟩
theorem body_eq : dLaw.body = lawF.body := by kernel_rfl
theorem scope_eq : dLaw.scope = lawF.cs := by kernel_rfl
theorem kind_eq : lawF.cs.kind = .function := by kernel_rfl
theorem cells_eq (L : Nat) : cellsFrom (L + 1) dLaw.scope.names [] = [(Str.ofString "way", L + 1 + 1 + 1 + 1 + 1 + 1 + 1 + 1), (Str.ofString "walk", L + 1 + 1 + 1 + 1 + 1 + 1 + 1), (Str.ofString "spots", L + 1 + 1 + 1 + 1 + 1 + 1), (Str.ofString "plain", L + 1 + 1 + 1 + 1 + 1), (Str.ofString "number", L + 1 + 1 + 1 + 1), (Str.ofString "memory", L + 1 + 1 + 1), (Str.ofString "hang", L + 1 + 1), (Str.ofString "drawn", L + 1)] := by kernel_rfl
theorem post_ok (args : List WData) : rw4.claim.post args (.bool true) args = true := by kernel_rfl
theorem dp_ok (e : Env) : (callerA.deeper e).depth + 40 < recursionLimit := by show 1 + claimMargin + 1 + 40 < recursionLimit; decide +kernel
theorem un_ok (e : Env) : (callerA.deeper e).units + 8 * 40 + 8 < cLine := by
  show 4 + 3 + 8 * 40 + 8 < cLine; decide +kernel
theorem lnames_nd : lnames.Nodup := by decide +kernel
theorem env_eq (L fa : Addr) (cd : Value) : envOfC dLaw.name dLaw.scope L fa cd = envX lawF.name lawF.cs L fa cd (cellsFrom (L + 1) dLaw.scope.names []) := by kernel_rfl
theorem noTabs_K (P : Params) : noTabs (K P) = true := by kernel_rfl
theorem sI_keys (a : Addr) : ((sI a none []).locs.map (·.1)).Nodup := by
  show ((lnames.zip (some (AV.val (.ref a)) :: List.replicate 20 none)).map (·.1)).Nodup
  rw [show (lnames.zip (some (AV.val (.ref a)) :: List.replicate 20 none)).map (·.1) = lnames from List.map_fst_zip (by simp [lnames])]
  exact lnames_nd
theorem sI_mem {a : Addr} {x : Str} {av : AV} (h : (x, some av) ∈ (sI a none []).locs) : x = Str.ofString "script" ∧ av = .val (.ref a) := by
  have h : (x, some av) ∈ lnames.zip (some (AV.val (.ref a)) :: List.replicate 20 none) := h
  unfold lnames at h
  rw [List.zip_cons_cons] at h
  rcases List.mem_cons.mp h with h | h
  · cases h; exact ⟨rfl, rfl⟩
  · have := (List.of_mem_zip h).2
    simp at this
theorem c_nd : (cs8.map (·.1)).Nodup := by decide +kernel
/-- the cells, by name -/
theorem cells_at (a b c d e f g h : Addr) (as : List Addr) : ∀ (x : Str) (i : Nat), (x, i) ∈ cs8 → ∃ q, List.lookup x [(Str.ofString "way", a), (Str.ofString "walk", b), (Str.ofString "spots", c), (Str.ofString "plain", d), (Str.ofString "number", e), (Str.ofString "memory", f), (Str.ofString "hang", g), (Str.ofString "drawn", h)] = some q ∧ (a :: b :: c :: d :: e :: f :: g :: h :: as)[i]? = some q := by
  have r : RCs (a :: b :: c :: d :: e :: f :: g :: h :: as) cs8 [(Str.ofString "way", a), (Str.ofString "walk", b), (Str.ofString "spots", c), (Str.ofString "plain", d), (Str.ofString "number", e), (Str.ofString "memory", f), (Str.ofString "hang", g), (Str.ofString "drawn", h)] :=
    .cons rfl (.cons rfl (.cons rfl (.cons rfl (.cons rfl (.cons rfl (.cons rfl (.cons rfl .nil)))))))
  exact r.at c_nd
/-- the cells that the law is entered with -/
theorem cells_os {cm : Str → Option Value} (hn : ∀ x, cm x = none) {cs : List (Str × Addr)} {cells : List (Addr × Obj)} (X : CellsAre cm cs cells) : ∃ os : List Obj, os.length = cs.length ∧ cells = (cs.map (·.2)).zip os ∧ ∀ o ∈ os, o.data = .cell none := by
  induction X with
  | nil => exact ⟨[], rfl, rfl, fun _ h => nomatch h⟩
  | cons h _ ih =>
    obtain ⟨os, h1, h2, h3⟩ := ih
    exact ⟨_ :: os, congrArg Nat.succ h1, congrArg (_ :: ·) h2, List.forall_mem_cons.mpr ⟨h.trans (congrArg _ (hn _)), h3⟩⟩
theorem adr_eq (L : Nat) : (cellsFrom (L + 1) dLaw.scope.names []).map (·.2) = [L + 8, L + 7, L + 6, L + 5, L + 4, L + 3, L + 2, L + 1] := by kernel_rfl
noncomputable def adr (L : Nat) : List Addr := [L + 8, L + 7, L + 6, L + 5, L + 4, L + 3, L + 2, L + 1]
theorem adr_nd (L : Nat) (h : 1534 < L) : (adr L ++ [1534]).Nodup := by
  unfold adr
  simp
  lia
theorem lk_adr (L : Nat) (x : Str) (i : Nat) (h : (x, i) ∈ cs8) : ∃ b, (cellsFrom (L + 1) dLaw.scope.names []).lookup x = some b ∧ (adr L ++ [1534])[i]? = some b := by
  rw [cells_eq]
  exact cells_at _ _ _ _ _ _ _ _ _ x i h
theorem objs_at {P : Params} {as : List Addr} {os : List Obj} (hl : os.length = 8) (hd : ∀ o ∈ os, o.data = .cell none) {i : Nat} {ao : AO} {o : Obj} (h1 : (List.replicate 8 (AO.cell none) ++ [.tab []])[i]? = some ao) (h2 : (os ++ [tabObj #[]])[i]? = some o) : RO P as ao o := by
  by_cases h : i < 8
  · rw [List.getElem?_append_left (by simpa using h)] at h1
    rw [List.getElem?_append_left (by lia)] at h2
    rw [(List.mem_replicate.mp (List.mem_of_getElem? h1)).2]
    exact ⟨none, hd o (List.mem_of_getElem? h2), trivial⟩
  · rw [List.getElem?_append_right (by simp; lia)] at h1
    rw [List.getElem?_append_right (by lia)] at h2
    rw [List.mem_singleton.mp (List.mem_of_getElem? h1), List.mem_singleton.mp (List.mem_of_getElem? h2)]
    exact ⟨#[], .nil, rfl⟩
abbrev tabs3 : List (Addr × Addr) := [(1536, 1534)]
/-- the frame of the law -/
noncomputable def cxL (w : World) (g : Heap) (L : Addr) (env : Env) (gens : Array GenState) (os : OsState) : Cx := ⟨w, callerA.deeper env, g, L, env, [], none, [], gens, os⟩
section
variable {w : World} {cl : Str → Option Addr} {mean : ExcName → Option Value} {mg mb : Str → Option Value} {s₁ : Shared} {fa a : Addr} {o : Obj} {vs : List Value} {ns : List Int} {h₁ g : Heap} {tk : Nat} {m : Str → Option Value} {loose : List Str} {p : Program} {L : Addr} {gens : Array GenState} {os : OsState}
theorem okL (KG : (K w.params).In g) (ho : g.get? a = some o) (T : Top p loose mean mg mb g) : Ok (Kx w.params a o) fL 40 (cxL w g L (envOfC dLaw.name dLaw.scope L fa (.ref 1536)) gens os) where
  scope := scope_eq
  globals := rfl
  builtins := rfl
  kin := Kx_of KG ho
  top := ⟨_, _, _, _, _, T⟩
  kind := kind_eq
  depth := dp_ok _
  units := un_ok _
  handled := rfl
  fn := fun _ => ⟨rfl, rfl, rfl, ⟨callerA, g, below_caller _⟩, rfl⟩
  cmp := fun e => nomatch e
theorem atL {obs : List Obj} {s : Shared} (hs : s = { heap := h₁, gens := gens, drawn := s.drawn, toks := tk, os := os }) (F : Fr g L h₁ m) (N : News g L h₁ ((adr L ++ [1534]).zip (obs ++ [tabObj #[]]))) (hl : obs.length = 8) (hd : ∀ o ∈ obs, o.data = .cell none) (hP : 1534 < L) (hm : m (Str.ofString "script") = some (.ref a)) (env : Env) (he : env.cells = cellsFrom (L + 1) dLaw.scope.names []) :
    At (cxL w g L env gens os) (adr L ++ [1534]) (obs ++ [tabObj #[]]) m (sI a none []) s where
  gens := by rw [hs]; rfl
  os_ := by rw [hs]; rfl
  fr := by rw [hs]; exact F
  news := by rw [hs]; show News g L h₁ (_ ++ []); rw [List.append_nil]; exact N
  len := by rw [List.length_append, hl]; rfl
  len' := rfl
  nodup := by show (_ ++ []).Nodup; rw [List.append_nil]; exact adr_nd L hP
  objs := fun i ao x h1 h2 => objs_at hl hd h1 h2
  locs := fun x av h => by
    obtain ⟨rfl, rfl⟩ := sI_mem h
    exact ⟨_, hm, rfl⟩
  keys := sI_keys a
  cells := fun x i h => by
    show ∃ b, env.cells.lookup x = some b ∧ _
    rw [he]
    exact lk_adr L x i h
  comp := fun _ e => nomatch e
theorem fin_ok (hg : s₁.gens = #[]) (KX : (K w.params).In s₁.heap) (T : Top q loose mean mg mb s₁.heap) (hT : TabsAt tabs3 s₁.heap) (hL : s₁.heap.IsList a vs.toArray) (hI : IntsAre vs ns) (hn : ns.length ≤ 63) (F : Fr s₁.heap s₁.heap.objs.size h₁ m) (hm : m (Str.ofString "script") = some (.ref a))
    {cm : Str → Option Value} (hcm : ∀ x, cm x = none) {cells : List (Addr × Obj)} (N : News s₁.heap s₁.heap.objs.size h₁ cells) (X : CellsAre cm (cellsFrom (s₁.heap.objs.size + 1) dLaw.scope.names []) cells)
    (args : List WData) (Q : Flow → Shared → Prop) (E : Value → Shared → Prop) (hQ : ∀ s', GoodW rw4.claim cl mean args { s₁ with heap := ghostOf s₁.heap tabs3 } (.ok (.ret (.bool true))) s' ∧ GrownAll tabs3 s'.heap → Q (.ret (.bool true)) s') :
    wpAny (model rw4.prog w) (callerA.deeper (envOfC dLaw.name dLaw.scope s₁.heap.objs.size fa (.ref 1536))) (execs dLaw.body (envOfC dLaw.name dLaw.scope s₁.heap.objs.size fa (.ref 1536))) Q E { heap := h₁, gens := s₁.gens, drawn := s₁.drawn, toks := tk, os := s₁.os } := by
  have KG := ghost_K hT KX (noTabs_K w.params)
  have TG := ghost_top hT T
  have NG := ghost_news hT F N
  have lP : 1534 < s₁.heap.objs.size := ghost_lt hT F (1534, tabObj #[]) (.head _)
  have FG := ghost_fr hT F
  have C := (ghost_code hT).1
  obtain ⟨o, ho, hc, n, hd⟩ := ghost_list hT hL
  obtain ⟨obs, hl, hcells, hob⟩ := cells_os hcm X
  have hl8 : obs.length = 8 := by
    have := congrArg List.length (adr_eq s₁.heap.objs.size)
    rw [List.length_map] at this
    exact hl.trans this
  rw [adr_eq] at hcells
  have NG' : News (ghostOf s₁.heap tabs3) s₁.heap.objs.size h₁ ((adr s₁.heap.objs.size ++ [1534]).zip (obs ++ [tabObj #[]])) := by
    rw [List.zip_append (by rw [hl8]; rfl)]
    rw [hcells] at NG
    exact NG
  have hs : Same w.params a o := fun o' e => by
    have := KG a o' e
    rw [ho] at this
    exact (Option.some.inj this).symm
  have okx := okL (fa := fa) (L := s₁.heap.objs.size) (gens := s₁.gens) (os := s₁.os) KG ho TG
  obtain ⟨σ', h8, B⟩ := tail_ok (as0 := adr s₁.heap.objs.size ++ [1534]) ⟨okx.kx hs, _, _, _, _, _, env_eq _ _ _, C, rfl⟩ (drawn ns) (drawn_len ns)
  have B0 := DoesFrom.cons ((s0 (n := n) hs hc hd (by simpa using hI) hn).from okx) B
  rw [body_eq, law_list]
  refine B0 [] (obs ++ [tabObj #[]]) m _ Q E (atL rfl FG NG' hl8 hob lP hm _ rfl) fun bs os' m' v s' rv R => ?_
  obtain ⟨u, rfl, ru⟩ := rv
  obtain rfl : u = .bool true := ru
  obtain ⟨b, ob, b1, _, _, b2, arr, _, rfl⟩ := R.obj h8
  have b3 : b = 1534 := (Option.some.inj b1).symm
  exact hQ s' ⟨goodW_bool (s₁ := { s₁ with heap := ghostOf s₁.heap tabs3 }) R.fr (R.gens.trans hg) (fun _ => rfl) (post_ok args) R.os_, ⟨arr, by rw [← b3]; exact b2⟩, trivial⟩
end
theorem scr_ok (L : Nat) (fa a : Addr) (cd pm doc : Value) : bindL (envOfC dLaw.name dLaw.scope L fa cd).kindOf
      (List.filterMap
        (fun n =>
          Option.map (fun x => (n, x))
            (List.lookup n
              (((List.map (fun x => x.arg)
                              (docDef dLaw.name dLaw.params dLaw.body dLaw.scope pm cd
                                    doc).params.posonlyargs ++
                            List.map (fun x => x.arg)
                              (docDef dLaw.name dLaw.params dLaw.body dLaw.scope pm cd
                                    doc).params.args).zip
                        (Args.mk [Value.ref a] []).pos,
                      ([] : List Str)).fst,
                  ([] : List Str)).fst))
        (List.map (fun x => x.arg)
              (docDef dLaw.name dLaw.params dLaw.body dLaw.scope pm cd doc).params.posonlyargs ++
            List.map (fun x => x.arg)
              (docDef dLaw.name dLaw.params dLaw.body dLaw.scope pm cd doc).params.args ++
          List.map (fun x => x.arg)
            (docDef dLaw.name dLaw.params dLaw.body dLaw.scope pm cd doc).params.kwonlyargs))
      (fun _ => none) (Str.ofString "script") = some (.ref a) := by kernel_rfl
theorem cel_ok (L : Nat) (fa a : Addr) (cd pm doc : Value) (x : Str) : bindC (envOfC dLaw.name dLaw.scope L fa cd).kindOf
      (List.filterMap
        (fun n =>
          Option.map (fun x => (n, x))
            (List.lookup n
              (((List.map (fun x => x.arg)
                              (docDef dLaw.name dLaw.params dLaw.body dLaw.scope pm cd
                                    doc).params.posonlyargs ++
                            List.map (fun x => x.arg)
                              (docDef dLaw.name dLaw.params dLaw.body dLaw.scope pm cd
                                    doc).params.args).zip
                        (Args.mk [Value.ref a] []).pos,
                      ([] : List Str)).fst,
                  ([] : List Str)).fst))
        (List.map (fun x => x.arg)
              (docDef dLaw.name dLaw.params dLaw.body dLaw.scope pm cd doc).params.posonlyargs ++
            List.map (fun x => x.arg)
              (docDef dLaw.name dLaw.params dLaw.body dLaw.scope pm cd doc).params.args ++
          List.map (fun x => x.arg)
            (docDef dLaw.name dLaw.params dLaw.body dLaw.scope pm cd doc).params.kwonlyargs))
      (fun _ => none) x = none := by kernel_rfl
theorem viaX {G : Prop} (h : ∀ X : Prop, (G → X) → X) : G := h G id
theorem walk : WalkO q looseQ (XL q []) (kHook K Kas Kas_eq).says rw4.toRowW dLaw [] (fun f vs => PySem.call f vs) := by
  intro w s₀ s₁ mg mb G Y fa o pm cd doc dV kV ho hd hcd hD hmg hg args vals as hpre hlay hrd hwl hlo
  have KX := kIn_of Y
  refine Ground.open G ?_
  intro T B D TE TW
  have hT9 : TabsAt tabs3 s₁.heap := List.forall_mem_cons.mpr ⟨tab_of (x := Str.ofString "law") (c := 1536) (P := 1534) T KX rfl (by kernel_rfl), fun _ h => nomatch h⟩
  have he9 : cd = .ref 1536 := law_code (x := Str.ofString "law") (c := 1536) (P := 1534) KX (Top.g T) (by kernel_rfl) hmg ho hd
  subst he9
  clear hmg
  refine viaX fun X hX => ?_
  wrow_args hpre hlay hrd hwl hlo
  refine hX ?_
  first | refine callC_kw (enter_call ?_) | refine enter_call ?_
  w_top on
  refine kn_post hT9 (fun _ _ => rfl) ?_
  have he := Dflts.none hD rfl
  subst he
  have he := Dflts.noKw hD
  subst he
  refine call_cellsN (by decide) ho (fd_plain hd) (Top.nolimit T) hcd rfl (kinds_of (by kinds_ok)) (by decide) fun h₁ tk₁ cells F N0 X0 => ?_
  rename_i ns q1 q2 q3 q4 q5 q6 q7 a vs q8 hL q9 q10 q11 hI q12 hc1 hc2
  exact fin_ok hg KX T hT9 hL hI (by omega) F (scr_ok _ _ _ _ _ _) (fun x => cel_ok _ _ _ _ _ _ x) N0 X0 _ _ _ (fun s' h => h)
end Mine
theorem PySem.Challenge.cw_im0095_03_holds : PySem.Challenge.rw_im0095_03.Holds :=
  Mine.hd Mine.walk
