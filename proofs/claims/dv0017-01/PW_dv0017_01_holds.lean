import PyProof.Rows.All
import Wide.All
import OpenK.AllK
import Wide.FinOn
import PySem.Challenge.RW_dv0017_01
open PySem PySem.W PyProof.Rows
set_option Elab.async false
set_option autoImplicit false
set_option linter.unusedVariables false
set_option linter.unusedSimpArgs false
set_option linter.unusedSectionVars false

namespace Mine
open PySem PySem.W PyProof.Rows
/-- a goal kept out of the motives -/
theorem cps {T : Prop} (h : ∀ P : Prop, (T → P) → P) : T := h T id

/-! ## names in a frame: association lists -/
def aget (x : Str) : List (Str × Value) → Option Value
  | [] => none
  | (y, v) :: r => if x = y then some v else aget x r
def aput (x : Str) (v : Value) : List (Str × Value) → List (Str × Value)
  | [] => [(x, v)]
  | (y, w) :: r => if x = y then (x, v) :: r else (y, w) :: aput x v r
theorem aget_aput (x y : Str) (v : Value) : ∀ l, aget y (aput x v l) = if y = x then some v else aget y l
  | [] => by simp [aput, aget]
  | (z, w) :: r => by
    by_cases h : x = z
    · subst h
      by_cases h2 : y = x <;> simp [aput, aget, h2]
    · by_cases h2 : y = z
      · subst h2
        have : ¬ y = x := fun e => h e.symm
        simp [aput, aget, h, this]
      · simp [aput, aget, h, h2, aget_aput x y v r]

/-! ## the ledger -/
abbrev Ent := Addr × (Obj → Prop)

structure Led (B h : Heap) (live fz : List Ent) : Prop where
  keep : ∀ b o, B.get? b = some o → h.get? b = some o
  lv : ∀ p, p ∈ live → (∃ o, h.get? p.1 = some o ∧ p.2 o) ∧ B.get? p.1 = none
  fv : ∀ p, p ∈ fz → (∃ o, h.get? p.1 = some o ∧ p.2 o) ∧ B.get? p.1 = none
  nd : (live.map (·.1)).Nodup
  sp : ∀ p, p ∈ fz → p.1 ∉ live.map (·.1)

inductive Put (a : Addr) (P P' : Obj → Prop) : List Ent → List Ent → Prop
  | here {r : List Ent} : Put a P P' ((a, P) :: r) ((a, P') :: r)
  | there {x : Ent} {r r' : List Ent} : Put a P P' r r' → Put a P P' (x :: r) (x :: r')

section
variable {B h : Heap} {live live' fz : List Ent} {a : Addr} {P P' : Obj → Prop}

theorem Put.mem (u : Put a P P' live live') : (a, P) ∈ live := by
  induction u with
  | here => exact .head _
  | there _ ih => exact .tail _ ih
theorem Put.keys (u : Put a P P' live live') : live'.map (·.1) = live.map (·.1) := by
  induction u with
  | here => rfl
  | there _ ih => simp only [List.map_cons, ih]
theorem Put.of_mem (u : Put a P P' live live') (nd : (live.map (·.1)).Nodup) {p : Ent} (hp : p ∈ live') : p = (a, P') ∨ (p ∈ live ∧ p.1 ≠ a) := by
  induction u with
  | @here r =>
    rcases List.mem_cons.mp hp with rfl | hp
    · exact .inl rfl
    · refine .inr ⟨.tail _ hp, fun e => ?_⟩
      simp only [List.map_cons, List.nodup_cons] at nd
      exact nd.1 (e ▸ List.mem_map_of_mem hp)
  | @there x r r' u ih =>
    simp only [List.map_cons, List.nodup_cons] at nd
    rcases List.mem_cons.mp hp with rfl | hp
    · refine .inr ⟨.head _, fun e => nd.1 ?_⟩
      rw [e]; exact List.mem_map_of_mem u.mem
    · rcases ih nd.2 hp with e | ⟨h1, h2⟩
      · exact .inl e
      · exact .inr ⟨.tail _ h1, h2⟩

theorem Led.base_none (D : Led B h live fz) : B.get? h.objs.size = none := by
  cases q : B.get? h.objs.size with
  | none => rfl
  | some o => exact absurd (Heap.lt_size (D.keep _ _ q)) (Nat.lt_irrefl _)
theorem Led.rd (D : Led B h live fz) (hm : (a, P) ∈ live) : ∃ o, h.get? a = some o ∧ P o := (D.lv _ hm).1
theorem Led.rf (D : Led B h live fz) (hm : (a, P) ∈ fz) : ∃ o, h.get? a = some o ∧ P o := (D.fv _ hm).1

theorem Led.alloc (D : Led B h live fz) {o : Obj} (hp : P o) (hf : o.isFreed = false) : Led B (h.push o) ((h.objs.size, P) :: live) fz := by
  refine ⟨fun b o' e => Heap.get?_push_of_some _ (D.keep b o' e), fun p hm => ?_, fun p hm => ?_, ?_, fun p hm hq => ?_⟩
  · rcases List.mem_cons.mp hm with rfl | hm
    · exact ⟨⟨o, Heap.get?_push_size _ hf, hp⟩, D.base_none⟩
    · obtain ⟨⟨o', e, q⟩, k⟩ := D.lv p hm
      exact ⟨⟨o', Heap.get?_push_of_some _ e, q⟩, k⟩
  · obtain ⟨⟨o', e, q⟩, k⟩ := D.fv p hm
    exact ⟨⟨o', Heap.get?_push_of_some _ e, q⟩, k⟩
  · rw [List.map_cons, List.nodup_cons]
    refine ⟨fun hq => ?_, D.nd⟩
    obtain ⟨p, hp', e⟩ := List.mem_map.mp hq
    obtain ⟨⟨o', e', _⟩, _⟩ := D.lv p hp'
    exact absurd (Heap.lt_size e') (by rw [e]; exact Nat.lt_irrefl _)
  · rw [List.map_cons] at hq
    rcases List.mem_cons.mp hq with e | hq
    · obtain ⟨⟨o', e', _⟩, _⟩ := D.fv p hm
      exact absurd (Heap.lt_size e') (by rw [e]; exact Nat.lt_irrefl _)
    · exact D.sp p hm hq

theorem Led.same (D : Led B h live fz) (u : Put a P P' live live') {h' : Heap} (hs : Heap.SameBut a h h') {o' : Obj} (ho : h'.get? a = some o') (hp : P' o') : Led B h' live' fz := by
  have ha := (D.lv _ u.mem).2
  refine ⟨fun b o e => (hs.2 b fun q => ?_).trans (D.keep b o e), fun p hm => ?_, fun p hm => ?_, by rw [u.keys]; exact D.nd, fun p hm => by rw [u.keys]; exact D.sp p hm⟩
  · have e' : B.get? a = some o := by rw [← q]; exact e
    rw [show B.get? a = none from ha] at e'; cases e'
  · rcases u.of_mem D.nd hm with rfl | ⟨h1, h2⟩
    · exact ⟨⟨o', ho, hp⟩, ha⟩
    · obtain ⟨⟨o, e, q⟩, k⟩ := D.lv p h1
      exact ⟨⟨o, (hs.2 _ h2).trans e, q⟩, k⟩
  · obtain ⟨⟨o, e, q⟩, k⟩ := D.fv p hm
    refine ⟨⟨o, (hs.2 _ fun z => D.sp p hm ?_).trans e, q⟩, k⟩
    rw [z]; exact List.mem_map_of_mem u.mem

theorem Led.upd (D : Led B h live fz) (u : Put a P P' live live') {f : Obj → Obj} {o : Obj} (ho : h.get? a = some o) (hp : P' (f o)) (hf : (f o).isFreed = false) : Led B (h.update a f) live' fz :=
  D.same u (Heap.SameBut.update ..) (Heap.get?_update_self f ho hf) hp

theorem Led.sub (D : Led B h live fz) {live₂ fz₂ : List Ent} (hl : List.Sublist live₂ live) (hz : ∀ p, p ∈ fz₂ → p ∈ fz) : Led B h live₂ fz₂ :=
  ⟨D.keep, fun p hp => D.lv p (hl.subset hp), fun p hp => D.fv p (hz p hp), List.Nodup.sublist (hl.map _) D.nd, fun p hp hq => D.sp p (hz p hp) ((hl.map _).subset hq)⟩
theorem Led.drop (D : Led B h ((a, P) :: live) fz) : Led B h live fz := D.sub (List.sublist_cons_self _ _) fun _ hp => hp
theorem Led.drop2 {x : Ent} (D : Led B h (x :: (a, P) :: live) fz) : Led B h (x :: live) fz := D.sub (List.Sublist.cons_cons _ (List.sublist_cons_self _ _)) fun _ hp => hp
theorem Led.freeze (D : Led B h ((a, P) :: live) fz) : Led B h live ((a, P) :: fz) := by
  have nd := D.nd
  rw [List.map_cons, List.nodup_cons] at nd
  refine ⟨D.keep, fun p hp => D.lv p (.tail _ hp), fun p hp => ?_, nd.2, fun p hp => ?_⟩
  · rcases List.mem_cons.mp hp with rfl | hp
    · exact D.lv _ (.head _)
    · exact D.fv p hp
  · rcases List.mem_cons.mp hp with rfl | hp
    · exact nd.1
    · exact fun q => D.sp p hp (.tail _ q)
theorem Led.perm (D : Led B h live fz) {live₂ : List Ent} (hp : live₂.Perm live) : Led B h live₂ fz :=
  ⟨D.keep, fun p q => D.lv p (hp.mem_iff.mp q), D.fv, (hp.map _).nodup_iff.mpr D.nd, fun p q r => D.sp p q ((hp.map _).mem_iff.mp r)⟩
theorem Led.ne {b : Addr} {P₂ : Obj → Prop} (D : Led B h live fz) (hm : (a, P) ∈ live) (hm' : (b, P₂) ∈ fz) : a ≠ b := fun e => D.sp _ hm' (by show b ∈ _; rw [← e]; exact List.mem_map_of_mem hm)
theorem Led.weak (D : Led B h ((a, P) :: live) fz) (hp : ∀ o, P o → P' o) : Led B h ((a, P') :: live) fz := by
  refine ⟨D.keep, fun p q => ?_, D.fv, D.nd, D.sp⟩
  rcases List.mem_cons.mp q with rfl | q
  · obtain ⟨⟨o, e, r⟩, k⟩ := D.lv _ (.head _)
    exact ⟨⟨o, e, hp o r⟩, k⟩
  · exact D.lv p (.tail _ q)
end

/-! ## what the entries say -/
def FrameP (kvs : List (Str × Value)) (o : Obj) : Prop :=
  ∃ es ep, o.data = .dict es ep ∧ StrKeys es ∧ ∀ x v, aget x kvs = some v → nsFind es x = some v
abbrev lstO (xs : List Value) (n : Nat) : Obj := { cls := .type "list", data := .seq xs.toArray n }
abbrev tupO (xs : List Value) : Obj := { cls := .type "tuple", data := .seq xs.toArray }
def LListP (xs : List Value) (o : Obj) : Prop := ∃ n, o = lstO xs n
def TupP (xs : List Value) (o : Obj) : Prop := o = tupO xs
def CellP (v : Value) (o : Obj) : Prop := o.data = .cell (some v)

theorem FrameP.ns {h : Heap} {a : Addr} {kvs : List (Str × Value)} {o : Obj} (ho : h.get? a = some o) (hp : FrameP kvs o) : ∃ m, h.Ns a m ∧ ∀ x v, aget x kvs = some v → m x = some v := by
  obtain ⟨es, ep, hd, hk, hv⟩ := hp
  exact ⟨nsFind es, ⟨o, es, ep, ho, hd, hk, fun _ => rfl⟩, hv⟩
theorem FrameP.of_ns {h : Heap} {a : Addr} {kvs : List (Str × Value)} {m : Str → Option Value} (hn : h.Ns a m) (hv : ∀ x v, aget x kvs = some v → m x = some v) : ∃ o, h.get? a = some o ∧ FrameP kvs o := by
  obtain ⟨o, es, ep, ho, hd, hk, hf⟩ := hn
  exact ⟨o, ho, es, ep, hd, hk, fun x v e => (hf x).trans (hv x v e)⟩
theorem FrameP.slots {kvs : List (Str × Value)} {o : Obj} (hp : FrameP kvs o) (sl : Array (Option Value)) : FrameP kvs { o with slots := sl } := hp
theorem FrameP.sub {kvs kvs' : List (Str × Value)} {o : Obj} (hp : FrameP kvs o) (hs : ∀ x v, aget x kvs' = some v → aget x kvs = some v) : FrameP kvs' o := by
  obtain ⟨es, ep, hd, hk, hv⟩ := hp
  exact ⟨es, ep, hd, hk, fun x v e => hv x v (hs x v e)⟩

/-! ## names: load and store -/
section
variable {M : Model} {A : Around} {E : Value → Shared → Prop} {B h : Heap} {live fz : List Ent} {g : Array GenState} {d : Drawn} {t : Nat} {os : OsState} {env : Env} {x : Str} {v : Value} {kvs : List (Str × Value)}

theorem ld_local {Q : Value → Shared → Prop} (D : Led B h live fz) (hm : (env.locals, FrameP kvs) ∈ live) (hx : aget x kvs = some v) (hk : env.scope.kind = .function) (hl : env.kindOf x = some .local)
    (hq : Q v ⟨h, g, d, t, os⟩) : wpAny M A (loadName env x) Q E ⟨h, g, d, t, os⟩ := by
  obtain ⟨o, ho, hp⟩ := D.rd hm
  obtain ⟨m, hn, hv⟩ := FrameP.ns ho hp
  exact wpAny_loadName_local hk hl hn (hv _ _ hx) hq

theorem st_local {Q : Unit → Shared → Prop} {live' : List Ent} (D : Led B h live fz) (u : Put env.locals (FrameP kvs) (FrameP (aput x v kvs)) live live') (hl : env.kindOf x = some .local) (hk : env.scope.kind = .function)
    (hq : ∀ h' t', Led B h' live' fz → Q () ⟨h', g, d, t', os⟩) : wpAny M A (storeName env x v) Q E ⟨h, g, d, t, os⟩ := by
  obtain ⟨o, ho, hp⟩ := D.rd u.mem
  obtain ⟨m, hn, hv⟩ := FrameP.ns ho hp
  refine wpAny_storeName_local (s := ⟨h, g, d, t, os⟩) hl hn (fun h' hn' hs => ?_) (by rw [hk]; rfl)
  obtain ⟨o', ho', hp'⟩ := FrameP.of_ns (kvs := aput x v kvs) hn' (fun y u e => by
    rw [aget_aput] at e
    by_cases z : y = x
    · simp only [z, if_true] at e ⊢; exact e
    · simp only [z, if_false] at e ⊢; exact hv _ _ e)
  exact hq h' _ (D.same u hs ho' hp')

theorem ld_cell {Q : Value → Shared → Prop} {c : Addr} (D : Led B h live fz) (hm : (c, CellP v) ∈ live ∨ (c, CellP v) ∈ fz) (hc : env.cells.lookup x = some c) (hk : env.scope.kind = .function)
    (hl : env.kindOf x = some .cell ∨ (env.kindOf x = some .free ∧ (x == ("__classdict__" : Str)) = false))
    (hq : Q v ⟨h, g, d, t, os⟩) : wpAny M A (loadName env x) Q E ⟨h, g, d, t, os⟩ := by
  obtain ⟨o, ho, hp⟩ : ∃ o, h.get? c = some o ∧ CellP v o := hm.elim D.rd D.rf
  have hcell : Heap.IsCell h c (some v) := ⟨o, ho, hp⟩
  rcases hl with hl | ⟨hl, hn⟩
  · exact wpAny_loadName_cell hk hl hc hcell hq
  · first | exact wpAny_loadName_free hk hl hc hcell hq | exact wpAny_loadName_free hk hl hc hcell hq hn | exact wpAny_loadName_free hk hl hn hc hcell hq

theorem ld_global {Q : Value → Shared → Prop} {mg : Str → Option Value} (D : Led B h live fz) (G : B.Ns mainGlobals mg) (hg : env.globals = mainGlobals) (hx : mg x = some v) (hk : env.scope.kind = .function) (hl : env.kindOf x = some .globalImplicit)
    (hq : Q v ⟨h, g, d, t, os⟩) : wpAny M A (loadName env x) Q E ⟨h, g, d, t, os⟩ := by
  have e : loadName env x = loadGlobal env x := by simp [loadName, Env.blockKind, hk, hl, ScopeKind.isAnnotationScope]
  rw [e]
  unfold loadGlobal
  rw [hg]
  refine wpAny_bind (wpAny_nsGet (G.keeps D.keep) ?_)
  rw [hx]
  exact wpAny_pure hq

theorem ld_builtin {Q : Value → Shared → Prop} {mg mb : Str → Option Value} (D : Led B h live fz) (G : B.Ns mainGlobals mg) (Gb : B.Ns builtinsNs mb) (hg : env.globals = mainGlobals) (hb : env.builtins = builtinsNs) (hx : mg x = none) (hx' : mb x = some v) (hk : env.scope.kind = .function) (hl : env.kindOf x = some .globalImplicit)
    (hq : Q v ⟨h, g, d, t, os⟩) : wpAny M A (loadName env x) Q E ⟨h, g, d, t, os⟩ := by
  have e : loadName env x = loadGlobal env x := by simp [loadName, Env.blockKind, hk, hl, ScopeKind.isAnnotationScope]
  rw [e]
  unfold loadGlobal
  rw [hg, hb]
  refine wpAny_bind (wpAny_nsGet (G.keeps D.keep) ?_)
  rw [hx]
  refine wpAny_bind (wpAny_nsGet (Gb.keeps D.keep) ?_)
  rw [hx']
  exact wpAny_pure hq
end
end Mine

namespace Mine
open PySem PySem.W PyProof.Rows PySem.SeqAt
/-! ## comparing: lists of ints, and triples -/
def ilt : List Int → List Int → Bool
  | [], [] => false
  | [], _ :: _ => true
  | _ :: _, [] => false
  | a :: as, b :: bs => if a = b then ilt as bs else decide (a < b)

def LtAt (A : Around) (s : Shared) (y x : Value) (b : Bool) : Prop :=
  ∀ (prog : Program) (w : World) (E : Value → Shared → Prop) (Q : Value → Shared → Prop), Q (.bool b) s → wpAny (model prog w) A (richCompare .Lt y x) Q E s

theorem eqAt_int {A : Around} {s : Shared} {a b : Int} {t u : Tok} : EqAt A s (.int a t) (.int b u) (a == b) := fun _ _ _ _ hq => wpAny_eqBool_int hq
theorem ltAt_int {A : Around} {s : Shared} {a b : Int} {t u : Tok} : LtAt A s (.int a t) (.int b u) (decide (a < b)) := fun prog w E Q hq => by
  have h := PyProof.Rows.lt_int (prog := prog) (w := w) (A := A) (E := E) (s := s) (a := a) (b := b) (t := t) (u := u) (Q := Q) hq
  exact h

theorem ints_get : ∀ {vs : List Value} {ns : List Int}, IntsAre vs ns → ∀ (i : Nat) (h : i < ns.length), ∃ t, vs[i]? = some (.int ns[i] t)
  | _, _, .nil, i, h => absurd h (Nat.not_lt_zero _)
  | _, _, .cons n t r, 0, _ => ⟨t, rfl⟩
  | _, _, .cons n t r, i + 1, h => by
    obtain ⟨t', e⟩ := ints_get r i (by simpa using h)
    exact ⟨t', by simpa using e⟩

theorem ilt_step {ns ms : List Int} {i : Nat} (h1 : i < ns.length) (h2 : i < ms.length) :
    ilt (ns.drop i) (ms.drop i) = if ns[i] = ms[i] then ilt (ns.drop (i + 1)) (ms.drop (i + 1)) else decide (ns[i] < ms[i]) := by
  rw [List.drop_eq_getElem_cons h1, List.drop_eq_getElem_cons h2]; rfl
theorem ilt_end {ns ms : List Int} {i : Nat} (h : ns.length ≤ i ∨ ms.length ≤ i) (hi : i ≤ ns.length) (hi' : i ≤ ms.length) :
    ilt (ns.drop i) (ms.drop i) = decide (ns.length < ms.length) := by
  rcases h with h | h
  · have e : ns.drop i = [] := List.drop_of_length_le h
    rw [e]
    by_cases z : ms.length ≤ i
    · rw [List.drop_of_length_le z]; symm; rw [show ilt [] [] = false from rfl]; exact decide_eq_false (by omega)
    · rw [List.drop_eq_getElem_cons (by omega)]; symm; exact decide_eq_true (by omega)
  · have e : ms.drop i = [] := List.drop_of_length_le h
    rw [e]
    by_cases z : ns.length ≤ i
    · rw [List.drop_of_length_le z]; symm; rw [show ilt [] [] = false from rfl]; exact decide_eq_false (by omega)
    · rw [List.drop_eq_getElem_cons (by omega)]; symm; exact decide_eq_false (by omega)

theorem lt_loopAt (l b : Addr) (xs ys : List Value) (ns ms : List Int) (n n2 : Nat) (dd dd2 : Option Addr) (sl sl2 : Array (Option Value)) (hx : IntsAre xs ns) (hy : IntsAre ys ms) (k : Nat) :
    ∀ i : Nat, ns.length - i = k → i ≤ ns.length → i ≤ ms.length → Meets (Builtin.«list.__eq__.loop» ⟨[.ref l, .ref b, rawInt i, rawInt 0], []⟩)
      (fun _ R s => s.heap.get? l = some { cls := .type "list", dict := dd, data := .seq xs.toArray n, slots := sl } ∧ s.heap.get? b = some { cls := .type "list", dict := dd2, data := .seq ys.toArray n2, slots := sl2 } ∧
        R (.ok (.ret (.bool (ilt (ns.drop i) (ms.drop i))))) s) := by
  have lx : xs.length = ns.length := hx.length
  have ly : ys.length = ms.length := hy.length
  induction k with
  | zero =>
    intro i hk hi hi' prog w A R s h
    obtain ⟨hp, g, d, tk, os⟩ := s; obtain ⟨hl, hb, h⟩ := h
    wp_walk using wpAny_loadPart' hl, wpAny_loadPart' hb
    have hi1 : xs.toArray[((i : Nat) : Int).toNat]? = none := by simp; omega
    rw [hi1]
    wp_walk using wpAny_loadPart' hl, wpAny_loadPart' hb
    show R (.ok (.ret (.bool (decide (xs.toArray.size < ys.toArray.size))))) _
    rw [ilt_end (.inl (by omega)) hi hi'] at h
    simpa [lx, ly] using h
  | succ k ih =>
    intro i hk hi hi' prog w A R s h
    obtain ⟨hp, g, d, tk, os⟩ := s; obtain ⟨hl, hb, h⟩ := h
    wp_walk using wpAny_loadPart' hl, wpAny_loadPart' hb
    have h1 : i < ns.length := by omega
    obtain ⟨t1, e1⟩ := ints_get hx i h1
    have hi1 : xs.toArray[((i : Nat) : Int).toNat]? = some (.int ns[i] t1) := by simpa using e1
    rw [hi1]
    by_cases h2 : i < ms.length
    · obtain ⟨t2, e2⟩ := ints_get hy i h2
      have hi2 : ys.toArray[((i : Nat) : Int).toNat]? = some (.int ms[i] t2) := by simpa using e2
      rw [hi2]
      refine wpAny_bind (wpAny_eqBool_int ?_)
      rw [ilt_step h1 h2] at h
      have hc : ((i : Int) + 1) = ((i + 1 : Nat) : Int) := by push_cast; rfl
      by_cases q : ns[i] = ms[i]
      · rw [if_pos q] at h
        have qb : (ns[i] == ms[i]) = true := by simpa using q
        rw [qb]
        wp_walk
        rw [hc]
        exact ⟨plainId_quiet MeetsSeq3.plain_eq_loop _, codeAny_builtin MeetsSeq3.entry_eq_loop (by
          rw [Around.under_plainId MeetsSeq3.plain_eq_loop _]
          exact ih (i + 1) (by omega) (by omega) (by omega) prog w A R _ ⟨hl, hb, h⟩)⟩
      · rw [if_neg q] at h
        have qb : (ns[i] == ms[i]) = false := by simpa using q
        rw [qb]
        wp_walk using wpAny_loadPart' hl, wpAny_loadPart' hb
        rw [hi1, hi2]
        refine wpAny_bind (ltAt_int prog w _ _ ?_)
        wp_walk
        exact h
    · have hi2 : ys.toArray[((i : Nat) : Int).toNat]? = none := by simp; omega
      rw [hi2]
      wp_walk using wpAny_loadPart' hl, wpAny_loadPart' hb
      show R (.ok (.ret (.bool (decide (xs.toArray.size < ys.toArray.size))))) _
      rw [ilt_end (.inr (by omega)) hi hi'] at h
      simpa [lx, ly] using h

theorem list_ltAt (l b : Addr) (xs ys : List Value) (ns ms : List Int) (n n2 : Nat) (dd dd2 : Option Addr) (sl sl2 : Array (Option Value)) (hx : IntsAre xs ns) (hy : IntsAre ys ms) :
    Meets (Builtin.«list.__lt__» ⟨[.ref l, .ref b], []⟩)
      (fun _ R s => s.heap.get? l = some { cls := .type "list", dict := dd, data := .seq xs.toArray n, slots := sl } ∧ s.heap.get? b = some { cls := .type "list", dict := dd2, data := .seq ys.toArray n2, slots := sl2 } ∧
        R (.ok (.ret (.bool (ilt ns ms)))) s) := by
  intro prog w A R s h
  obtain ⟨hp, g, d, tk, os⟩ := s; obtain ⟨hl, hb, h⟩ := h
  have f3 := AutoSeq1.sub_list_list
  wp_walk using wpAny_loadPart' hl, wpAny_loadPart' hb
  exact ⟨plainId_quiet MeetsSeq3.plain_eq_loop _, codeAny_builtin MeetsSeq3.entry_eq_loop (by
    rw [Around.under_plainId MeetsSeq3.plain_eq_loop _]
    exact lt_loopAt l b xs ys ns ms n n2 dd dd2 sl sl2 hx hy _ 0 rfl (Nat.zero_le _) (Nat.zero_le _) prog w A R _ ⟨hl, hb, by simpa using h⟩)⟩

theorem ltAt_lists {A : Around} {s : Shared} {l b : Addr} {xs ys : List Value} {ns ms : List Int} (hl : s.heap.IsList l xs.toArray) (hb : s.heap.IsList b ys.toArray) (hx : IntsAre xs ns) (hy : IntsAre ys ms) (hu : A.units < cLine) :
    LtAt A s (.ref l) (.ref b) (ilt ns ms) := fun prog w E Q h => by
  obtain ⟨⟨cls, dd, data, sl⟩, ho, hc, n, hd⟩ := id hl
  obtain ⟨⟨cls2, dd2, data2, sl2⟩, ho2, hc2, n2, hd2⟩ := id hb
  simp only at hc hd hc2 hd2
  subst hc hd hc2 hd2
  exact richCompare_meets_room (op := .Lt) ⟨_, ho, rfl⟩ ⟨_, ho2, rfl⟩ F.slot_list_lt F.entry_list_lt (F.args_list_lt_2 _ _) (list_ltAt l b xs ys ns ms n n2 dd dd2 sl sl2 hx hy)
    ⟨ho, ho2, show Value.bool (ilt ns ms) ≠ Value.notImplemented ∧ Q (.bool (ilt ns ms)) s from ⟨(fun x => nomatch x), h⟩⟩ hu

theorem all_eq_ints : ∀ {xs ys : List Value} {ns ms : List Int}, IntsAre xs ns → IntsAre ys ms → ns.length = ms.length → (List.range ns.length).all (fun j => ns.getD j 0 == ms.getD j 0) = decide (ns = ms) := by
  intro xs ys ns ms _ _ hlen
  by_cases q : ns = ms
  · subst q
    rw [decide_eq_true rfl, List.all_eq_true]
    intro j _
    simp
  · rw [decide_eq_false q, List.all_eq_false]
    have : ∃ j, j < ns.length ∧ ns.getD j 0 ≠ ms.getD j 0 := by
      by_cases hall : ∀ j, j < ns.length → ns.getD j 0 = ms.getD j 0
      · exfalso
        apply q
        apply List.ext_getElem hlen
        intro j h1 h2
        have := hall j h1
        simpa [List.getD_eq_getElem?_getD, h1, h2] using this
      · obtain ⟨j, hj⟩ := Classical.not_forall.mp hall
        obtain ⟨h1, h2⟩ := Classical.not_imp.mp hj
        exact ⟨j, h1, h2⟩
    obtain ⟨j, h1, h2⟩ := this
    exact ⟨j, List.mem_range.mpr h1, by simpa using h2⟩

theorem eqAt_lists {A : Around} {s : Shared} {l b : Addr} {xs ys : List Value} {ns ms : List Int} (hl : s.heap.IsList l xs.toArray) (hb : s.heap.IsList b ys.toArray) (hx : IntsAre xs ns) (hy : IntsAre ys ms) (hu : A.units < cLine) :
    EqAt A s (.ref l) (.ref b) (decide (ns = ms)) := by
  have lx : xs.length = ns.length := hx.length
  have ly : ys.length = ms.length := hy.length
  by_cases z : l = b
  · subst z
    have e : xs.toArray = ys.toArray := by
      obtain ⟨o, ho, _, n, hd⟩ := hl
      obtain ⟨o', ho', _, n', hd'⟩ := hb
      rw [ho] at ho'; cases ho'
      rw [hd] at hd'; cases hd'; rfl
    have e' : xs = ys := by simpa using e
    subst e'
    have : ns = ms := by rw [← hx.nums, ← hy.nums]
    rw [decide_eq_true this]
    exact EqAt.same _
  · refine EqAt.of_refs z ?_
    by_cases hlen : ns.length = ms.length
    · rw [← all_eq_ints hx hy hlen]
      have h := RcAt.lists (A := A) (e := fun j => ns.getD j 0 == ms.getD j 0) hl hb (by simp [lx, ly, hlen]) hu (fun j h1 h2 => by
        have h1' : j < ns.length := by simpa [lx] using h1
        have h2' : j < ms.length := by simpa [ly] using h2
        obtain ⟨t1, e1⟩ := ints_get hx j h1'
        obtain ⟨t2, e2⟩ := ints_get hy j h2'
        have a1 : xs.toArray[j] = .int ns[j] t1 := by
          have : xs[j]? = some xs[j] := List.getElem?_eq_getElem (by omega)
          rw [this] at e1
          simpa using e1
        have a2 : ys.toArray[j] = .int ms[j] t2 := by
          have : ys[j]? = some ys[j] := List.getElem?_eq_getElem (by omega)
          rw [this] at e2
          simpa using e2
        rw [a1, a2]
        have b1 : ns.getD j 0 = ns[j] := by simp [List.getD_eq_getElem?_getD, h1']
        have b2 : ms.getD j 0 = ms[j] := by simp [List.getD_eq_getElem?_getD, h2']
        rw [b1, b2]
        exact eqAt_int)
      have hs : xs.toArray.size = ns.length := by simp [lx]
      rw [hs] at h
      exact h
    · rw [decide_eq_false (fun e => hlen (by rw [e]))]
      exact RcAt.lists_lengths hl hb (by simp [lx, ly]; exact hlen) hu

theorem tuple_lt3 (l b : Addr) (x0 x1 x2 y0 y1 y2 : Value) (e0 e1 e2 c0 c1 c2 : Bool) (n n2 : Nat) (dd dd2 : Option Addr) (sl sl2 : Array (Option Value)) :
    Meets (Builtin.«tuple.__lt__» ⟨[.ref l, .ref b], []⟩)
      (fun A R s => s.heap.get? l = some { cls := .type "tuple", dict := dd, data := .seq #[x0, x1, x2] n, slots := sl } ∧ s.heap.get? b = some { cls := .type "tuple", dict := dd2, data := .seq #[y0, y1, y2] n2, slots := sl2 } ∧
        EqAt A.in1 s x0 y0 e0 ∧ EqAt A.in1 s x1 y1 e1 ∧ EqAt A.in1 s x2 y2 e2 ∧ LtAt A.in1 s x0 y0 c0 ∧ LtAt A.in1 s x1 y1 c1 ∧ LtAt A.in1 s x2 y2 c2 ∧
        R (.ok (.ret (.bool (if e0 then (if e1 then (if e2 then false else c2) else c1) else c0)))) s) :=
  .of_wp fun prog w A R s h => by
    obtain ⟨hp, g, d, tk, os⟩ := s; obtain ⟨hl, hb, q0, q1, q2, k0, k1, k2, h⟩ := h
    have f2 := AutoSeq1.sub_tuple_tuple
    wp_walk using wpAny_loadPart' hl, wpAny_loadPart' hb, wpAny_forIn_list _ (fun rest b s' => b.1 = none ∧ s' = ⟨hp, g, d, tk, os⟩ ∧
      ((rest = [(x0, y0), (x1, y1), (x2, y2)] ∧ R (.ok (.ret (.bool (if e0 then (if e1 then (if e2 then false else c2) else c1) else c0)))) ⟨hp, g, d, tk, os⟩)
      ∨ (rest = [(x1, y1), (x2, y2)] ∧ R (.ok (.ret (.bool (if e1 then (if e2 then false else c2) else c1)))) ⟨hp, g, d, tk, os⟩)
      ∨ (rest = [(x2, y2)] ∧ R (.ok (.ret (.bool (if e2 then false else c2)))) ⟨hp, g, d, tk, os⟩)
      ∨ (rest = [] ∧ R (.ok (.ret (.bool false))) ⟨hp, g, d, tk, os⟩))) _
    case turn =>
      rintro ⟨y, x⟩ rest b s' ⟨hb', rfl, hz⟩
      rcases hz with ⟨hz, hR⟩ | ⟨hz, hR⟩ | ⟨hz, hR⟩ | ⟨hz, hR⟩
      · injection hz with hyx hrest
        injection hyx with hy hx
        subst hy hx hrest
        refine wpAny_bind (q0 prog w _ _ ?_)
        cases e0 with
        | true =>
          wp_walk
          exact ⟨rfl, rfl, .inr (.inl ⟨rfl, by simpa using hR⟩)⟩
        | false =>
          refine wpAny_ite_true rfl (wpAny_bind (wpAny_rule (wpAny_bind (k0 prog w _ _ ?_))))
          wp_walk
          exact ⟨_, rfl, by simpa using hR⟩
      · injection hz with hyx hrest
        injection hyx with hy hx
        subst hy hx hrest
        refine wpAny_bind (q1 prog w _ _ ?_)
        cases e1 with
        | true =>
          wp_walk
          exact ⟨rfl, rfl, .inr (.inr (.inl ⟨rfl, by simpa using hR⟩))⟩
        | false =>
          refine wpAny_ite_true rfl (wpAny_bind (wpAny_rule (wpAny_bind (k1 prog w _ _ ?_))))
          wp_walk
          exact ⟨_, rfl, by simpa using hR⟩
      · injection hz with hyx hrest
        injection hyx with hy hx
        subst hy hx hrest
        refine wpAny_bind (q2 prog w _ _ ?_)
        cases e2 with
        | true =>
          wp_walk
          exact ⟨rfl, rfl, .inr (.inr (.inr ⟨rfl, by simpa using hR⟩))⟩
        | false =>
          refine wpAny_ite_true rfl (wpAny_bind (wpAny_rule (wpAny_bind (k2 prog w _ _ ?_))))
          wp_walk
          exact ⟨_, rfl, by simpa using hR⟩
      · cases hz
    case fin =>
      rintro ⟨b1, b2⟩ s' ⟨hb', rfl, hz⟩
      simp only at hb'
      subst hb'
      rcases hz with ⟨hz, hR⟩ | ⟨hz, hR⟩ | ⟨hz, hR⟩ | ⟨hz, hR⟩
      · cases hz
      · cases hz
      · cases hz
      · wp_walk
        exact ⟨_, rfl, by simpa [Builtin.Tuple.tupleCompareSizes] using hR⟩
    case h => exact ⟨rfl, rfl, .inl ⟨rfl, h⟩⟩

theorem ltAt_tup3 {A : Around} {s : Shared} {l b : Addr} {x0 x1 x2 y0 y1 y2 : Value} {e0 e1 e2 c0 c1 c2 : Bool} (hl : s.heap.IsTuple l #[x0, x1, x2]) (hb : s.heap.IsTuple b #[y0, y1, y2]) (hu : A.units < cLine)
    (q0 : EqAt A.in1 s x0 y0 e0) (q1 : EqAt A.in1 s x1 y1 e1) (q2 : EqAt A.in1 s x2 y2 e2) (k0 : LtAt A.in1 s x0 y0 c0) (k1 : LtAt A.in1 s x1 y1 c1) (k2 : LtAt A.in1 s x2 y2 c2) :
    LtAt A s (.ref l) (.ref b) (if e0 then (if e1 then (if e2 then false else c2) else c1) else c0) := fun prog w E Q h => by
  obtain ⟨⟨cls, dd, data, sl⟩, ho, hc, n, hd⟩ := id hl
  obtain ⟨⟨cls2, dd2, data2, sl2⟩, ho2, hc2, n2, hd2⟩ := id hb
  simp only at hc hd hc2 hd2
  subst hc hd hc2 hd2
  exact richCompare_meets_room (op := .Lt) ⟨_, ho, rfl⟩ ⟨_, ho2, rfl⟩ F.slot_tuple_lt F.entry_tuple_lt (F.args_tuple_lt_2 _ _) (tuple_lt3 l b x0 x1 x2 y0 y1 y2 e0 e1 e2 c0 c1 c2 n n2 dd dd2 sl sl2)
    ⟨ho, ho2, q0, q1, q2, k0, k1, k2, ⟨(fun x => nomatch x), h⟩⟩ hu
end Mine

namespace Mine
open PySem PySem.W PyProof.Rows PySem.SeqAt
/-! ## names -/
theorem ofString_inj (a b : String) : (Str.ofString a = Str.ofString b) = (a = b) := by
  apply propext
  constructor
  · intro h
    rw [Str.ofString_eq_toList, Str.ofString_eq_toList] at h
    have h1 : a.toList.map Char.toNat = b.toList.map Char.toNat := by
      have := congrArg (fun s : Str => s.cps.toList) h
      simpa using this
    have inj : ∀ (x y : List Char), x.map Char.toNat = y.map Char.toNat → x = y := by
      intro x
      induction x with
      | nil => intro y h; cases y <;> simp_all
      | cons c x ih =>
        intro y h
        cases y with
        | nil => simp at h
        | cons c' y =>
          simp only [List.map_cons, List.cons.injEq] at h
          rw [ih y h.2, Char.toNat_inj.mp h.1]
    exact String.toList_inj.mp (inj _ _ h1)
  · rintro rfl; rfl
theorem ap_nil {x : Str} {v : Value} : aput x v [] = [(x, v)] := rfl
theorem ap_here {x : Str} {v w : Value} {r : List (Str × Value)} : aput x v ((x, w) :: r) = (x, v) :: r := if_pos rfl
theorem ap_skip {a b : String} {v w : Value} {r r' : List (Str × Value)} (h : decide (a = b) = false) (e : aput (Str.ofString a) v r = r') : aput (Str.ofString a) v ((Str.ofString b, w) :: r) = (Str.ofString b, w) :: r' := by
  subst e
  refine if_neg fun q => ?_
  rw [ofString_inj] at q
  exact of_decide_eq_false h q
theorem aget_append {x : Str} {v : Value} : ∀ {l r : List (Str × Value)}, aget x l = some v → aget x (l ++ r) = some v
  | [], _, h => nomatch h
  | (y, w) :: l, r, h => by
    by_cases q : x = y
    · simp only [List.cons_append, aget, q, if_true] at h ⊢; exact h
    · simp only [List.cons_append, aget, q, if_false] at h ⊢; exact aget_append h
theorem aget_lookup (x : Str) : ∀ (l : List (Str × Value)), aget x l = l.lookup x
  | [] => rfl
  | (y, w) :: l => by
    by_cases q : x = y
    · subst q; simp [aget, List.lookup]
    · have : (x == y) = false := beq_eq_false_iff_ne.mpr q
      simp [aget, List.lookup, q, this, aget_lookup x l]

theorem lookup_of_mem {x : Str} {v : Value} : ∀ {l : List (Str × Value)}, (l.map (·.1)).Nodup → (x, v) ∈ l → l.lookup x = some v
  | [], _, h => nomatch h
  | (y, w) :: l, nd, h => by
    rw [List.map_cons, List.nodup_cons] at nd
    rcases List.mem_cons.mp h with e | h
    · injection e with e1 e2; subst e1 e2; simp [List.lookup]
    · have hn : (x == y) = false := beq_eq_false_iff_ne.mpr fun e => nd.1 (e ▸ List.mem_map_of_mem (f := (·.1)) h)
      simp only [List.lookup, hn]
      exact lookup_of_mem nd.2 h
theorem mem_of_aget {x : Str} {v : Value} : ∀ {l : List (Str × Value)}, aget x l = some v → (x, v) ∈ l
  | [], h => nomatch h
  | (y, w) :: l, h => by
    by_cases q : x = y
    · simp only [aget, q, if_true] at h; cases h; rw [q]; exact .head _
    · simp only [aget, q, if_false] at h; exact .tail _ (mem_of_aget h)
theorem aget_reverse {x : Str} {v : Value} {l : List (Str × Value)} (nd : (l.map (·.1)).Nodup) (h : aget x l = some v) : l.reverse.lookup x = some v :=
  lookup_of_mem (by rw [List.map_reverse]; exact List.pairwise_reverse.mpr (List.Pairwise.imp (fun h => Ne.symm h) nd)) (List.mem_reverse.mpr (mem_of_aget h))

section
variable {M : Model} {A : Around} {E : Value → Shared → Prop} {B h : Heap} {live live' fz rest : List Ent} {g : Array GenState} {d : Drawn} {t : Nat} {os : OsState} {env : Env} {x : Str} {v : Value} {kvs kvs' : List (Str × Value)} {L : Addr}
theorem ld_name {Q : Value → Shared → Prop} (D : Led B h ((L, FrameP kvs) :: rest) fz) (hL : env.locals = L) (hx : aget x kvs = some v) (hk : env.scope.kind = .function) (hl : env.kindOf x = some .local)
    (hq : Q v ⟨h, g, d, t, os⟩) : wpAny M A (loadName env x) Q E ⟨h, g, d, t, os⟩ := by
  subst hL
  exact ld_local D (.head _) hx hk hl hq
theorem st_name {Q : Unit → Shared → Prop} (D : Led B h ((L, FrameP kvs) :: rest) fz) (hL : env.locals = L) (a : aput x v kvs = kvs') (hl : env.kindOf x = some .local) (hk : env.scope.kind = .function)
    (hq : ∀ h' t', Led B h' ((L, FrameP kvs') :: rest) fz → Q () ⟨h', g, d, t', os⟩) : wpAny M A (storeName env x v) Q E ⟨h, g, d, t, os⟩ := by
  subst hL
  refine st_local (kvs := kvs) D (live' := (env.locals, FrameP kvs') :: rest) ?_ hl hk hq
  rw [a]
  exact .here
theorem Led.fewer {a : Addr} {rest : List Ent} (D : Led B h ((a, FrameP (kvs ++ kvs')) :: rest) fz) : Led B h ((a, FrameP kvs) :: rest) fz :=
  D.weak fun _ hp => hp.sub fun _ _ e => aget_append e
end

/-! ## the program's defs -/
def stmtAt (i : Nat) : Option Stmt := PySem.Challenge.pw_dv0017_01.main.body[i]?
def bodyOf : Option Stmt → List Stmt
  | some (.FunctionDef _ _ b _ _ _ _ _ _ _) => b
  | _ => []
def scopeOf : Option Stmt → Scope
  | some (.FunctionDef _ _ _ _ _ _ sc _ _ _) => sc
  | _ => default
def paramsOf : Option Stmt → Arguments
  | some (.FunctionDef _ a _ _ _ _ _ _ _ _) => a
  | _ => default
abbrev fdOf (i : Nat) (nm : Str) (dV kV doc pm : Value) (an : Option Addr) (cdv ct : Value) : FuncData :=
  fnOf nm nm (paramsOf (stmtAt i)) (bodyOf (stmtAt i)) (scopeOf (stmtAt i)) dV kV doc pm an cdv ct
def IsFn (B : Heap) (f : Addr) (nm : Str) (i : Nat) (dV : Value) : Prop :=
  ∃ o kV doc pm an cdv ct, B.get? f = some o ∧ o.data = .func (fdOf i nm dV kV doc pm an cdv ct) ∧ B.CodeRec cdv nm
/-- the frame's block -/
abbrev envAt (i : Nat) (nm : Str) (cells : List (Str × Addr)) (L f : Addr) (cdv : Value) : Env :=
  { scope := scopeOf (stmtAt i), locals := L, globals := mainGlobals, cells := cells, qual := nm ++ ".<locals>.", func := some f, code := cdv, frame := some L, builtins := builtinsNs }

section
variable {prog : Program} {w : World} {A : Around} {Q E : Value → Shared → Prop} {B h : Heap} {live fz : List Ent} {g : Array GenState} {d : Drawn} {t : Nat} {os : OsState}

theorem enter {f : Addr} {nm : Str} {i : Nat} {dV : Value} {args : List Value} {binds : List (Str × Value)} (lim : B.NoLimit) (F : IsFn B f nm i dV) (D : Led B h live fz) (hroom : A.depth < recursionLimit)
    (hbind : ∀ kV doc pm an cdv ct, bindArgs (fdOf i nm dV kV doc pm an cdv ct) ⟨args, []⟩ = pure binds)
    (hcell : ((scopeOf (stmtAt i)).names.all fun x => x.2 != .cell) = true) (hloc : (binds.all fun x => (scopeOf (stmtAt i)).names.lookup x.1 == some .local) = true) (hnd : decide ((binds.map (·.1)).Nodup) = true)
    (k : ∀ cdv L h' t', Led B h' ((L, FrameP binds) :: live) fz →
      wpAny (model prog w) (A.deeper (envAt i nm [] L f cdv)) (execs (bodyOf (stmtAt i)) (envAt i nm [] L f cdv))
        (fun fl s' => Q (match fl with | .ret v => v | _ => .none) s')
        (fun e s' => wpAny (model prog w) (A.deeper (envAt i nm [] L f cdv)) (leaving (envAt i nm [] L f cdv) e) (fun _ s'' => E e s'') (fun e' s'' => E e' s'') s')
        ⟨h', g, d, t', os⟩)
    (hco : (scopeOf (stmtAt i)).isCoroutine = false := by rfl) (hgen : (scopeOf (stmtAt i)).isGenerator = false := by rfl) (hk : (scopeOf (stmtAt i)).kind = .function := by rfl) :
    wpAny (model prog w) A (call (.ref f) args) Q E ⟨h, g, d, t, os⟩ := by
  obtain ⟨o, kV, doc, pm, an, cdv, ct, ho, hd, hc⟩ := F
  refine wpAny_call (codeAny_call_def (s := ⟨h, g, d, t, os⟩) (fd := fdOf i nm dV kV doc pm an cdv ct) (body := bodyOf (stmtAt i)) (binds := binds) hroom (D.keep _ _ ho) hd (lim.keeps D.keep) (hc.keeps D.keep) rfl (.of_eq (hbind kV doc pm an cdv ct)) ?_ ?_ (fun h₀ hns hkp => ?_) hco hgen hk)
  · intro x hx e
    have := List.all_eq_true.mp hcell x hx
    rw [e] at this
    exact absurd this (by decide)
  · intro x hx
    exact eq_of_beq (List.all_eq_true.mp hloc x hx)
  · have D' : Led B h₀ ((h.objs.size, FrameP binds) :: live) fz := by
      obtain ⟨oL, hoL, hpL⟩ := FrameP.of_ns (kvs := binds) hns fun x v e => aget_reverse (of_decide_eq_true hnd) e
      refine ⟨fun b o e => hkp b o (D.keep b o e), fun p hp => ?_, fun p hp => ?_, ?_, fun p hp hq => ?_⟩
      · rcases List.mem_cons.mp hp with rfl | hp
        · exact ⟨⟨oL, hoL, hpL⟩, D.base_none⟩
        · obtain ⟨⟨o', e, q⟩, z⟩ := D.lv p hp
          exact ⟨⟨o', hkp _ _ e, q⟩, z⟩
      · obtain ⟨⟨o', e, q⟩, z⟩ := D.fv p hp
        exact ⟨⟨o', hkp _ _ e, q⟩, z⟩
      · rw [List.map_cons, List.nodup_cons]
        refine ⟨fun hq => ?_, D.nd⟩
        obtain ⟨p, hp', e⟩ := List.mem_map.mp hq
        obtain ⟨⟨o', e', _⟩, _⟩ := D.lv p hp'
        exact absurd (Heap.lt_size e') (by rw [e]; exact Nat.lt_irrefl _)
      · rw [List.map_cons] at hq
        rcases List.mem_cons.mp hq with e | hq
        · obtain ⟨⟨o', e', _⟩, _⟩ := D.fv p hp
          exact absurd (Heap.lt_size e') (by rw [e]; exact Nat.lt_irrefl _)
        · exact D.sp p hp hq
    exact k cdv h.objs.size h₀ _ D'
end

/-! ## ints -/
section
variable {prog : Program} {w : World} {M : Model} {A : Around} {Q E : Value → Shared → Prop} {h : Heap} {g : Array GenState} {d : Drawn} {t : Nat} {os : OsState} {a b : Int} {x y : Tok} {env : Env}
theorem k_int {i : Int} {k : Nat} {pos : Pos} (hq : Q (.int i t) ⟨h, g, d, t + 1, os⟩) : wpAny M A (eval (.Constant (.int i) k pos) env) Q E ⟨h, g, d, t, os⟩ := wpAny_Constant_int hq
theorem k_str {i : Str} {k : Nat} {pos : Pos} (hq : Q (.str i t) ⟨h, g, d, t + 1, os⟩) : wpAny M A (eval (.Constant (.str i) k pos) env) Q E ⟨h, g, d, t, os⟩ := fun _ _ _ => hq
theorem k_bool {i : Bool} {k : Nat} {pos : Pos} (hq : Q (.bool i) ⟨h, g, d, t, os⟩) : wpAny M A (eval (.Constant (.bool i) k pos) env) Q E ⟨h, g, d, t, os⟩ := fun _ _ _ => hq
theorem k_none {k : Nat} {pos : Pos} (hq : Q .none ⟨h, g, d, t, os⟩) : wpAny M A (eval (.Constant .none k pos) env) Q E ⟨h, g, d, t, os⟩ := fun _ _ _ => hq
theorem o_add (hq : Q (.int (a + b) t) ⟨h, g, d, t + 1, os⟩) : wpAny (model prog w) A (binaryOp .Add (.int a x) (.int b y)) Q E ⟨h, g, d, t, os⟩ := add_int hq
theorem o_sub (hq : Q (.int (a - b) t) ⟨h, g, d, t + 1, os⟩) : wpAny (model prog w) A (binaryOp .Sub (.int a x) (.int b y)) Q E ⟨h, g, d, t, os⟩ := sub_int hq
theorem o_mod (hb : b ≠ 0) (hq : Q (.int (a.fmod b) t) ⟨h, g, d, t + 1, os⟩) : wpAny (model prog w) A (binaryOp .Mod (.int a x) (.int b y)) Q E ⟨h, g, d, t, os⟩ := mod_int hb hq
theorem o_iadd (hq : Q (.int (a + b) t) ⟨h, g, d, t + 1, os⟩) : wpAny (model prog w) A (inplaceOp .Add (.int a x) (.int b y)) Q E ⟨h, g, d, t, os⟩ := iadd_int hq
theorem o_rsh1 (h0 : 0 ≤ a) (hq : Q (.int (a / 2) t) ⟨h, g, d, t + 1, os⟩) : wpAny (model prog w) A (binaryOp .RShift (.int a x) (.int 1 y)) Q E ⟨h, g, d, t, os⟩ := wpAny_rshift1_int h0 hq
end

/-! ## while -/
section
variable {prog : Program} {w : World} {A : Around} {E : Value → Shared → Prop} {s : Shared}
theorem while_ {test : Expr} {body : List Stmt} {pos : Pos} {env : Env} {Q : Flow → Shared → Prop} (I : Nat → Shared → Prop) (J : Shared → Prop) (n : Nat) (hI : I n s)
    (turn : ∀ n s, I n s → wpAny (model prog w) A (isTrue test env (eval test env)) (fun b s₂ =>
        if b then wpAny (model prog w) A (execs body env) (fun f s₃ => match f with
            | .next | .cont => ∃ m, m < n ∧ I m s₃
            | .brk => J s₃
            | .ret v => Q (.ret v) s₃) (notedBy (model prog w) A env fun e s' => cameBackBy (model prog w) A env E e s') s₂
        else J s₂) (notedBy (model prog w) A env fun e s' => cameBackBy (model prog w) A env E e s') s)
    (post : ∀ s, J s → Q .next s) : wpAny (model prog w) A (exec (.While test body [] pos) env) Q E s := by
  refine wpAny_While (codeAny_whileLoop I (fun n s hI => wpAny_mono (turn n s hI) (fun b s₂ h₂ => ?_) fun _ _ e => e) n hI)
  cases b with
  | false =>
    simp only [Bool.false_eq_true, if_false] at h₂ ⊢
    exact wpAny_execs_nil (post _ h₂)
  | true =>
    simp only [if_true] at h₂ ⊢
    refine wpAny_mono h₂ (fun f s₃ h₃ => ?_) fun _ _ e => e
    cases f with
    | next => exact h₃
    | cont => exact h₃
    | brk => exact post _ h₃
    | ret v => exact h₃
end

/-! ## lists and tuples in the ledger -/
section
variable {prog : Program} {w : World} {A : Around} {E : Value → Shared → Prop} {B h : Heap} {live live' fz : List Ent} {g : Array GenState} {d : Drawn} {t : Nat} {os : OsState} {l a : Addr} {xs : List Value}

theorem LListP.isList {o : Obj} (ho : h.get? l = some o) (hp : LListP xs o) : h.IsList l xs.toArray := by
  obtain ⟨n, rfl⟩ := hp
  exact ⟨_, ho, rfl, n, rfl⟩
theorem Led.list (D : Led B h live fz) (hm : (l, LListP xs) ∈ live) : h.IsList l xs.toArray := let ⟨_, ho, hp⟩ := D.rd hm; LListP.isList ho hp
theorem Led.flist (D : Led B h live fz) (hm : (l, LListP xs) ∈ fz) : h.IsList l xs.toArray := let ⟨_, ho, hp⟩ := D.rf hm; LListP.isList ho hp
theorem Led.ftup (D : Led B h live fz) (hm : (l, TupP xs) ∈ fz) : h.IsTuple l xs.toArray := by
  obtain ⟨o, ho, hp⟩ := D.rf hm
  rw [hp] at ho
  exact ⟨_, ho, rfl, 0, rfl⟩
theorem Led.tup (D : Led B h live fz) (hm : (l, TupP xs) ∈ live) : h.IsTuple l xs.toArray := by
  obtain ⟨o, ho, hp⟩ := D.rd hm
  rw [hp] at ho
  exact ⟨_, ho, rfl, 0, rfl⟩

theorem item_list {Q : Value → Shared → Prop} {value slice : Expr} {k : Int} {u : Tok} {v : Value} (hl : h.IsList l xs.toArray) (h0 : 0 ≤ k) (hk : k < 2 ^ 63) (hx : xs[k.toNat]? = some v) (hq : Q v ⟨h, g, d, t, os⟩)
    (hs : subscripted slice false (.ref l) (.int k u) = operate [.ref l, .int k u] (getItem (.ref l) (.int k u)) := by with_unfolding_all rfl) :
    wpAny (model prog w) A (subscriptTail value slice (.ref l) (.int k u)) Q E ⟨h, g, d, t, os⟩ :=
  tail_any (s := ⟨h, g, d, t, os⟩) (Heap.IsList.typeIs hl) slot_list_getitem.lookup (wpAny_getItem_list (s := ⟨h, g, d, t, os⟩) hl h0 hk (by simpa using hx) hq) hs

theorem set_item {Q : Unit → Shared → Prop} {k : Int} {u : Tok} {v : Value} (D : Led B h live fz) (p : Put l (LListP xs) (LListP (xs.set k.toNat v)) live live') (h0 : 0 ≤ k) (hk : k < 2 ^ 63) (hx : k.toNat < xs.length)
    (hq : ∀ h', Led B h' live' fz → Q () ⟨h', g, d, t, os⟩) : wpAny (model prog w) A (setItem (.ref l) (.int k u) v) Q E ⟨h, g, d, t, os⟩ := by
  obtain ⟨o, ho, hp⟩ := D.rd p.mem
  have hl := LListP.isList ho hp
  obtain ⟨n, rfl⟩ := hp
  unfold setItem
  try with_reducible refine wpAny_holding ?_
  first | refine wpAny_bind (wpAny_pure ?_) | skip
  refine wpAny_bind (wpAny_sequenceKey (s := ⟨h, g, d, t, os⟩) (Heap.IsList.typeIs hl) (by decide) ?_)
  refine wpAny_bind (wpAny_callSpecial?_slot (s := ⟨h, g, d, t, os⟩) (name := Str.ofString "__setitem__") (Heap.IsList.typeIs hl) slot_list_setitem
    (wpAny_call_entry slot_list_setitem (Heap.IsList.typeIs hl) entry_list_setitem ?_ (args_list_setitem _ _ _)))
  show wpAny _ _ (Builtin.List.listSubscript? (.int k u) >>= _) _ _ _
  refine wpAny_bind (wpAny_listSubscript_int (fitsIndex_of h0 hk) ?_)
  clear hk
  obtain ⟨j, rfl⟩ := Int.eq_ofNat_of_zero_le h0
  have hj : j < xs.toArray.size := by simpa using hx
  have hx' : xs.toArray[j]? = some xs.toArray[j] := Array.getElem?_eq_getElem hj
  show wpAny _ _ ((seqItemAt l j >>= fun r => pure (r.map (j, ·))) >>= _) _ _ _
  refine wpAny_bind (wpAny_bind (wpAny_seqItemAt (s := ⟨h, g, d, t, os⟩) ho rfl (wpAny_pure ?_)))
  rw [hx']
  show wpAny _ _ (setSeqItemAt l j v >>= _) _ _ _
  refine wpAny_bind (wpAny_setSeqItemAt (s := ⟨h, g, d, t, os⟩) ho rfl ?_)
  have D' : Led B (h.update l (Obj.mapSeq (·.setIfInBounds j v))) live' fz := by
    refine D.upd p ho ?_ rfl
    obtain ⟨n', e⟩ : ∃ n', Obj.mapSeq (·.setIfInBounds j v) (lstO xs n) = { cls := .type "list", data := .seq (xs.toArray.setIfInBounds j v) n' } := ⟨_, rfl⟩
    refine ⟨n', e.trans ?_⟩
    simp
  first
    | exact wpAny_bind (wpAny_pure (wpAny_pure ⟨.none, rfl, wpAny_pure (hq _ D')⟩))
    | exact wpAny_pure ⟨.none, rfl, wpAny_pure (hq _ D')⟩
end
end Mine

namespace Mine
open PySem PySem.W PyProof.Rows PySem.SeqAt
/-! ## data in the frozen part -/
abbrev Tri := List Int × Int × Int
def IsInts (fz : List Ent) (v : Value) (ns : List Int) : Prop := ∃ a vs, v = .ref a ∧ (a, LListP vs) ∈ fz ∧ IntsAre vs ns
def IsTri (fz : List Ent) (v : Value) (T : Tri) : Prop := ∃ a kv ot et, v = .ref a ∧ (a, TupP [kv, .int T.2.1 ot, .int T.2.2 et]) ∈ fz ∧ IsInts fz kv T.1
def tlt (x y : Tri) : Bool :=
  if decide (x.1 = y.1) then (if x.2.1 == y.2.1 then (if x.2.2 == y.2.2 then false else decide (x.2.2 < y.2.2)) else decide (x.2.1 < y.2.1)) else ilt x.1 y.1

section
variable {B h : Heap} {live fz fz' : List Ent} {g : Array GenState} {d : Drawn} {t : Nat} {os : OsState} {A : Around}
theorem IsInts.mono {v : Value} {ns : List Int} (x : IsInts fz v ns) (hs : ∀ p, p ∈ fz → p ∈ fz') : IsInts fz' v ns := let ⟨a, vs, e, m, i⟩ := x; ⟨a, vs, e, hs _ m, i⟩
theorem IsTri.mono {v : Value} {T : Tri} (x : IsTri fz v T) (hs : ∀ p, p ∈ fz → p ∈ fz') : IsTri fz' v T := let ⟨a, kv, ot, et, e, m, i⟩ := x; ⟨a, kv, ot, et, e, hs _ m, i.mono hs⟩
theorem ltAt_ints {v u : Value} {x y : List Int} (D : Led B h live fz) (hx : IsInts fz v x) (hy : IsInts fz u y) (hu : A.units < cLine) : LtAt A ⟨h, g, d, t, os⟩ v u (ilt x y) := by
  refine cps fun PP kk => ?_
  obtain ⟨a, vs, rfl, ma, ia⟩ := hx
  obtain ⟨b, us, rfl, mb, ib⟩ := hy
  refine kk ?_
  clear kk PP
  exact ltAt_lists (s := ⟨h, g, d, t, os⟩) (D.flist ma) (D.flist mb) ia ib hu
theorem eqAt_ints {v u : Value} {x y : List Int} (D : Led B h live fz) (hx : IsInts fz v x) (hy : IsInts fz u y) (hu : A.units < cLine) : EqAt A ⟨h, g, d, t, os⟩ v u (decide (x = y)) := by
  refine cps fun PP kk => ?_
  obtain ⟨a, vs, rfl, ma, ia⟩ := hx
  obtain ⟨b, us, rfl, mb, ib⟩ := hy
  refine kk ?_
  clear kk PP
  exact eqAt_lists (s := ⟨h, g, d, t, os⟩) (D.flist ma) (D.flist mb) ia ib hu
theorem ltAt_tri {v u : Value} {x y : Tri} (D : Led B h live fz) (hx : IsTri fz v x) (hy : IsTri fz u y) (hu : A.units + 1 < cLine) : LtAt A ⟨h, g, d, t, os⟩ v u (tlt x y) := by
  refine cps fun PP kk => ?_
  obtain ⟨a, kv, ot, et, rfl, ma, ka⟩ := hx
  obtain ⟨b, ku, ot', et', rfl, mb, kb⟩ := hy
  refine kk ?_
  clear kk PP
  exact ltAt_tup3 (s := ⟨h, g, d, t, os⟩) (D.ftup ma) (D.ftup mb) (by omega) (eqAt_ints D ka kb hu) eqAt_int eqAt_int (ltAt_ints D ka kb hu) ltAt_int ltAt_int
theorem cmp_lt {prog : Program} {w : World} {E Q : Value → Shared → Prop} {s : Shared} {v u : Value} {b : Bool} (k : LtAt A s v u b) (hq : Q (.bool b) s) : wpAny (model prog w) A (compareOp .Lt v u) Q E s := k prog w E Q hq
end

/-! ## _siftdown_max -/
section pure
variable {α : Type} (lt : α → α → Bool) (start : Nat) (new : α)
def sdown : Nat → Nat → List α → List α
  | 0, pos, h => h.set pos new
  | fuel + 1, pos, h =>
    if start < pos then
      match h[(pos - 1) / 2]? with
      | some p => if lt p new then sdown fuel ((pos - 1) / 2) (h.set pos p) else h.set pos new
      | none => h.set pos new
    else h.set pos new
theorem sdown_length : ∀ (fuel pos : Nat) (h : List α), (sdown lt start new fuel pos h).length = h.length
  | 0, pos, h => by simp [sdown]
  | fuel + 1, pos, h => by
    unfold sdown
    split
    · split
      · split
        · rw [sdown_length]; simp
        · simp
      · simp
    · simp
theorem sdown_fuel : ∀ (f1 f2 pos : Nat) (h : List α), pos ≤ f1 → pos ≤ f2 → sdown lt start new f1 pos h = sdown lt start new f2 pos h
  | 0, 0, _, _, _, _ => rfl
  | 0, f2 + 1, pos, h, h1, _ => by
    have : pos = 0 := by omega
    subst this
    rw [sdown, sdown, if_neg (by omega)]
  | f1 + 1, 0, pos, h, _, h2 => by
    have : pos = 0 := by omega
    subst this
    rw [sdown, sdown, if_neg (by omega)]
  | f1 + 1, f2 + 1, pos, h, h1, h2 => by
    rw [sdown, sdown]
    by_cases q : start < pos
    · rw [if_pos q, if_pos q]
      cases h[(pos - 1) / 2]? with
      | none => rfl
      | some p =>
        dsimp only
        split
        · exact sdown_fuel f1 f2 _ _ (by omega) (by omega)
        · rfl
    · rw [if_neg q, if_neg q]
end pure

local macro_rules | `(tactic| walk_at "mem") => `(tactic| (repeat (first | with_reducible exact List.Mem.head _ | with_reducible refine List.Mem.tail _ ?_)))
local macro_rules | `(tactic| walk_at "put") => `(tactic| (first | exact Put.here | exact Put.there Put.here | exact Put.there (Put.there Put.here) | exact Put.there (Put.there (Put.there Put.here)) | exact Put.there (Put.there (Put.there (Put.there Put.here)))))
local macro_rules | `(tactic| walk_at "ap") => `(tactic| first | with_reducible exact ap_nil | with_reducible exact ap_here | exact ap_skip rfl (by walk_at "ap"))
local macro_rules | `(tactic| walk_at "nl") => `(tactic| (refine wpAny_Name (ld_name (by assumption) (by rfl) (by rfl) (by rfl) (by rfl) ?_) (by decide)))
local macro_rules | `(tactic| walk_at "st") => `(tactic| (refine st_name (by assumption) (by rfl) (by walk_at "ap") (by rfl) (by rfl) ?_))

local macro_rules | `(tactic| walk_at "ci") => `(tactic| (refine k_int ?_))

section
variable {prog : Program} {w : World} {A : Around} {Q E : Value → Shared → Prop} {B h : Heap} {fz : List Ent} {g : Array GenState} {d : Drawn} {t : Nat} {os : OsState}

theorem siftdown_call {f l : Addr} {K : (Obj → Prop) → List Ent} {items : List (Value × Tri)} {sp p : Nat} {t1 t2 : Tok} {nv : Value × Tri} (lim : B.NoLimit) (F : IsFn B f (Str.ofString "_siftdown_max") 3 .none)
    (hK : ∀ P P', Put l P P' (K P) (K P')) (D : Led B h (K (LListP (items.map (·.1)))) fz)
    (hT : ∀ x, x ∈ items → IsTri fz x.1 x.2) (hn : items[p]? = some nv) (hlen : items.length < 2 ^ 60)
    (hd : A.depth < recursionLimit) (hu : A.units + 10 < cLine)
    (hq : ∀ h' t', Led B h' (K (LListP ((sdown (fun x y => tlt x.2 y.2) sp nv p p items).map (·.1)))) fz → Q .none ⟨h', g, d, t', os⟩) :
    wpAny (model prog w) A (call (.ref f) [.ref l, .int sp t1, .int p t2]) Q E ⟨h, g, d, t, os⟩ := by
  have hp : p < items.length := (List.getElem?_eq_some_iff.mp hn).1
  refine enter (binds := [(Str.ofString "heap", .ref l), (Str.ofString "startpos", .int sp t1), (Str.ofString "pos", .int p t2)]) lim F D hd (fun _ _ _ _ _ _ => by rfl) (by decide +kernel) (by rfl) (by rfl) (fun cdv L h' t' D' => ?_)
  refine wpAny_execs_cons ?_
  refine wpAny_Assign_Name ?_
  refine Subscript_ ?_
  walk_at "nl"
  walk_at "nl"
  refine item_list (v := nv.1) (D'.list (.tail _ (hK _ (LListP [])).mem)) (by omega) (by omega) (by rw [Int.toNat_natCast, List.getElem?_map, hn]; rfl) ?_
  walk_at "st"
  intro h1 tk1 D1
  refine wpAny_execs_cons ?_
  refine while_ (fun n s => ∃ h' t' tp, ∃ items' : List (Value × Tri), s = ⟨h', g, d, t', os⟩ ∧
    Led B h' ((L, FrameP [(Str.ofString "heap", .ref l), (Str.ofString "startpos", .int sp t1), (Str.ofString "pos", .int n tp), (Str.ofString "newitem", nv.1)]) :: K (LListP (items'.map (·.1)))) fz ∧
    (∀ x, x ∈ items' → IsTri fz x.1 x.2) ∧ items'.length = items.length ∧ n < items.length ∧ sdown (fun x y => tlt x.2 y.2) sp nv n n items' = sdown (fun x y => tlt x.2 y.2) sp nv p p items)
    (fun s => ∃ h' t' tp, ∃ n : Nat, ∃ items' : List (Value × Tri), s = ⟨h', g, d, t', os⟩ ∧
    Led B h' ((L, FrameP [(Str.ofString "heap", .ref l), (Str.ofString "startpos", .int sp t1), (Str.ofString "pos", .int n tp), (Str.ofString "newitem", nv.1)]) :: K (LListP (items'.map (·.1)))) fz ∧
    items'.length = items.length ∧ n < items.length ∧ items'.set n nv = sdown (fun x y => tlt x.2 y.2) sp nv p p items) p
    ⟨h1, _, t2, items, rfl, D1, hT, rfl, hp, rfl⟩ ?turn ?post
  case post =>
    intro s hEx
    refine cps fun PP kk => ?_
    obtain ⟨h2, tk2, tp, n, it, rfl, D2, hl2, hn2, he⟩ := hEx
    refine kk ?_
    clear kk PP
    refine wpAny_execs_cons ?_
    refine wpAny_Assign_Subscript ?_
    walk_at "nl"
    walk_at "nl"
    walk_at "nl"
    refine set_item D2 (.there (hK _ _)) (by omega) (by omega) (by simp; omega) ?_
    intro h3 D3
    refine wpAny_execs_nil ?_
    refine hq _ _ ?_
    rw [← he, List.map_set]
    exact D3.drop
  intro n s hEx
  refine cps fun PP kk => ?_
  obtain ⟨h2, tk2, tp, it, rfl, D2, hT2, hl2, hn2, he⟩ := hEx
  refine kk ?_
  clear kk PP
  refine wpAny_isTrue_Compare1 ?_
  walk_at "nl"
  walk_at "nl"
  refine gt_int (wpAny_truthy_bool ?_)
  refine split_dec (fun hc => ?_) (fun hc => ?_)
  · have hc : sp < n := by omega
    obtain ⟨m, rfl⟩ : ∃ m, n = m + 1 := ⟨n - 1, by omega⟩
    refine wpAny_execs_cons ?_
    refine wpAny_Assign_Name ?_
    refine wpAny_BinOp ?_
    refine wpAny_BinOp ?_
    walk_at "nl"
    walk_at "ci"
    refine o_sub ?_
    walk_at "ci"
    refine o_rsh1 (by omega) ?_
    rw [show (((m + 1 : Nat) : Int) - 1) / 2 = ((m / 2 : Nat) : Int) by omega]
    walk_at "st"
    intro h3 tk3 D3
    refine wpAny_execs_cons ?_
    refine wpAny_Assign_Name ?_
    refine Subscript_ ?_
    walk_at "nl"
    walk_at "nl"
    obtain ⟨pv, hpv⟩ : ∃ pv, it[m / 2]? = some pv := ⟨it[m / 2]'(by omega), List.getElem?_eq_getElem (by omega)⟩
    have hpm : pv ∈ it := List.mem_of_getElem? hpv
    have hnm : nv ∈ items := List.mem_of_getElem? hn
    refine item_list (v := pv.1) (D3.list (.tail _ (hK _ (LListP [])).mem)) (by omega) (by omega) (by rw [Int.toNat_natCast, List.getElem?_map, hpv]; rfl) ?_
    walk_at "st"
    intro h4 tk4 D4
    refine wpAny_execs_cons ?_
    refine wpAny_If ?_
    refine wpAny_isTrue_Compare1 ?_
    walk_at "nl"
    walk_at "nl"
    refine cmp_lt (ltAt_tri D4 (hT2 _ hpm) (hT _ hnm) (by show A.units + 3 + 1 < cLine; omega)) (wpAny_truthy_bool ?_)
    have hs : sdown (fun x y : Value × Tri => tlt x.2 y.2) sp nv (m + 1) (m + 1) it = if tlt pv.2 nv.2 then sdown (fun x y => tlt x.2 y.2) sp nv m (m / 2) (it.set (m + 1) pv) else it.set (m + 1) nv := by
      rw [sdown]
      simp only [hc, if_true, Nat.add_sub_cancel, hpv]
    refine split_bool (fun hlt => ?_) (fun hlt => ?_)
    · refine wpAny_execs_cons ?_
      refine wpAny_Assign_Subscript ?_
      walk_at "nl"
      walk_at "nl"
      walk_at "nl"
      refine set_item D4 (.there (hK _ _)) (by omega) (by omega) (by simp; omega) ?_
      intro h5 D5
      refine wpAny_execs_cons ?_
      refine wpAny_Assign_Name ?_
      walk_at "nl"
      walk_at "st"
      intro h6 tk6 D6
      refine wpAny_execs_cons ?_
      refine wpAny_Continue ?_
      have D7 := Led.fewer (kvs := [_, _, _, _]) (kvs' := [_, _]) D6
      rw [Int.toNat_natCast, ← List.map_set] at D7
      refine ⟨m / 2, by omega, h6, _, _, it.set (m + 1) pv, rfl, D7, ?_, by simpa using hl2, by omega, ?_⟩
      · intro x hx
        rcases List.mem_or_eq_of_mem_set hx with hx | rfl
        · exact hT2 _ hx
        · exact hT2 _ hpm
      · rw [← he, hs, if_pos hlt]
        exact sdown_fuel _ _ _ _ _ _ _ (Nat.le_refl _) (by omega)
    · refine wpAny_execs_nil ?_
      refine wpAny_execs_cons ?_
      refine wpAny_Break ?_
      refine ⟨h4, _, _, m + 1, it, rfl, Led.fewer (kvs' := [_, _]) D4, hl2, hn2, ?_⟩
      rw [← he, hs, if_neg (by simp [hlt])]
  · refine ⟨h2, _, _, n, it, rfl, D2, hl2, hn2, ?_⟩
    rw [← he]
    cases n with
    | zero => rfl
    | succ n => rw [sdown, if_neg (by omega)]
end
end Mine

namespace Mine
open PySem PySem.W PyProof.Rows PySem.SeqAt
/-! ## what stands at the top -/
def biList : List (Str × Value) := [(Str.ofString "len", .builtin "len"), (Str.ofString "range", .type "range"), (Str.ofString "reversed", .type "reversed"), (Str.ofString "iter", .builtin "iter"), (Str.ofString "object", .type "object"),
  (Str.ofString "min", .builtin "min"), (Str.ofString "TypeError", .type "TypeError"), (Str.ofString "AttributeError", .type "AttributeError"), (Str.ofString "zip", .type "zip"), (Str.ofString "next", .builtin "next"),
  (Str.ofString "ValueError", .type "ValueError"), (Str.ofString "list", .type "list"), (Str.ofString "StopIteration", .type "StopIteration"), (Str.ofString "sum", .builtin "sum")]
def fnList : List (Nat × Str) := [(1, Str.ofString "_heapreplace_max"), (2, Str.ofString "_heapify_max"), (3, Str.ofString "_siftdown_max"), (4, Str.ofString "_siftup_max"), (7, Str.ofString "_law_told"), (8, Str.ofString "_law_few"), (9, Str.ofString "_law_due")]
structure Stat (B : Heap) (mg mb : Str → Option Value) (fa : Nat → Addr) : Prop where
  g : B.Ns mainGlobals mg
  b : B.Ns builtinsNs mb
  lim : B.NoLimit
  bi : ∀ x v, (x, v) ∈ biList → mg x = none ∧ mb x = some v
  fn : ∀ i x, (i, x) ∈ fnList → mg x = some (.ref (fa i)) ∧ IsFn B (fa i) x i .none
  nsm : mg (Str.ofString "nsmallest") = some (.ref (fa 5)) ∧ ∃ dt, IsFn B (fa 5) (Str.ofString "nsmallest") 5 (.ref dt) ∧ ∃ o n, B.get? dt = some o ∧ o.data = .seq #[.none] n
  low : sysModules < B.objs.size

section
variable {M : Model} {A : Around} {E : Value → Shared → Prop} {B h : Heap} {live fz : List Ent} {g : Array GenState} {d : Drawn} {t : Nat} {os : OsState} {env : Env} {x : Str} {v : Value} {mg mb : Str → Option Value} {fa : Nat → Addr}
theorem ld_bi {Q : Value → Shared → Prop} (S : Stat B mg mb fa) (D : Led B h live fz) (hm : (x, v) ∈ biList) (hg : env.globals = mainGlobals) (hb : env.builtins = builtinsNs) (hk : env.scope.kind = .function) (hl : env.kindOf x = some .globalImplicit)
    (hq : Q v ⟨h, g, d, t, os⟩) : wpAny M A (loadName env x) Q E ⟨h, g, d, t, os⟩ := ld_builtin D S.g S.b hg hb (S.bi _ _ hm).1 (S.bi _ _ hm).2 hk hl hq
theorem ld_fn {Q : Value → Shared → Prop} {i : Nat} (S : Stat B mg mb fa) (D : Led B h live fz) (hm : (i, x) ∈ fnList) (hg : env.globals = mainGlobals) (hk : env.scope.kind = .function) (hl : env.kindOf x = some .globalImplicit)
    (hq : Q (.ref (fa i)) ⟨h, g, d, t, os⟩) : wpAny M A (loadName env x) Q E ⟨h, g, d, t, os⟩ := ld_global D S.g hg (S.fn _ _ hm).1 hk hl hq
theorem callWith_fn {f : Addr} {nm : Str} {i : Nat} {dV : Value} {pos : Pos} {e : Expr} {rest : List Expr} {s : Shared} {Q : Value → Shared → Prop} (F : IsFn B f nm i dV)
    (hq : wpAny M A (spliced (backTo pos (starEach (e :: rest) env))) (fun vs s₁ => (∀ b o, B.get? b = some o → s₁.heap.get? b = some o) ∧ wpAny M A (call (.ref f) vs) Q E s₁) E s)
    (he : starEach (e :: rest) env = (false, eval e env) :: starEach rest env := by rfl) :
    wpAny M A (callWith pos (.ref f) [] (backTo pos (starEach (e :: rest) env)) []) Q E s := by
  obtain ⟨o, kV, doc, pm, an, cdv, ct, ho, hd, hc⟩ := F
  exact callWith_def hd (wpAny_mono hq (fun vs s₁ h₁ => ⟨h₁.1 _ _ ho, h₁.2⟩) fun _ _ e => e) he
end

section
variable {prog : Program} {w : World} {A : Around} {Q E : Value → Shared → Prop} {h : Heap} {g : Array GenState} {d : Drawn} {t : Nat} {os : OsState}
theorem o_len {l : Addr} {xs : List Value} (hl : h.IsList l xs.toArray) (hf : xs.length < 2 ^ 62) (hq : ∀ u t', Q (.int xs.length u) ⟨h, g, d, t', os⟩) : wpAny (model prog w) A (call (.builtin "len") [.ref l]) Q E ⟨h, g, d, t, os⟩ :=
  len_list (s := ⟨h, g, d, t, os⟩) hl (by simp; omega) (by have := hq (t + 1) (t + 2); simpa using this)
theorem o_mul {a b : Int} {x y : Tok} (hq : Q (.int (a * b) t) ⟨h, g, d, t + 1, os⟩) (hm : IntMulOk a b := by mul_fits) : wpAny (model prog w) A (binaryOp .Mult (.int a x) (.int b y)) Q E ⟨h, g, d, t, os⟩ := mul_int hq hm
end
end Mine

namespace Mine
open PySem PySem.W PyProof.Rows PySem.SeqAt
local macro_rules | `(tactic| walk_at "mem") => `(tactic| (repeat (first | exact List.Mem.head _ | refine List.Mem.tail _ ?_)))
local macro_rules | `(tactic| walk_at "put") => `(tactic| (first | exact Put.here | exact Put.there Put.here | exact Put.there (Put.there Put.here) | exact Put.there (Put.there (Put.there Put.here)) | exact Put.there (Put.there (Put.there (Put.there Put.here))) | exact Put.there (Put.there (Put.there (Put.there (Put.there Put.here))))))
local macro_rules | `(tactic| walk_at "ap") => `(tactic| first | with_reducible exact ap_nil | with_reducible exact ap_here | exact ap_skip rfl (by walk_at "ap"))
local macro_rules | `(tactic| walk_at "nl") => `(tactic| (refine wpAny_Name (ld_name (by assumption) (by rfl) (by rfl) (by rfl) (by rfl) ?_) (by decide)))
local macro_rules | `(tactic| walk_at "nb") => `(tactic| (refine wpAny_Name (ld_bi (by assumption) (by assumption) (by walk_at "mem") (by rfl) (by rfl) (by rfl) (by rfl) ?_) (by decide)))
local macro_rules | `(tactic| walk_at "nf") => `(tactic| (refine wpAny_Name (ld_fn (by assumption) (by assumption) (by walk_at "mem") (by rfl) (by rfl) (by rfl) ?_) (by decide)))
local macro_rules | `(tactic| walk_at "st") => `(tactic| (refine st_name (by assumption) (by rfl) (by walk_at "ap") (by rfl) (by rfl) ?_))
local macro_rules | `(tactic| walk_at "ci") => `(tactic| (refine k_int ?_))
local macro_rules | `(tactic| walk_at "as") => `(tactic| (refine wpAny_execs_cons ?_; refine wpAny_Assign_Name ?_))
local macro_rules | `(tactic| walk_at "ss") => `(tactic| (refine wpAny_execs_cons ?_; refine wpAny_Assign_Subscript ?_))
local macro_rules | `(tactic| walk_at "if") => `(tactic| (refine wpAny_execs_cons ?_; refine wpAny_If ?_))
local macro_rules | `(tactic| walk_at "ex") => `(tactic| (refine wpAny_execs_cons ?_; refine wpAny_Expr ?_))

section
/-! ## _siftup_max -/
section pure
variable {α : Type} (lt : α → α → Bool)
def bigger (h : List α) (c : Nat) : Nat :=
  match h[c + 1]?, h[c]? with
  | some r, some x => if lt r x then c else c + 1
  | _, _ => c
def supp : Nat → Nat → List α → Nat × List α
  | 0, pos, h => (pos, h)
  | f + 1, pos, h =>
    if 2 * pos + 1 < h.length then
      match h[bigger lt h (2 * pos + 1)]? with
      | some x => supp f (bigger lt h (2 * pos + 1)) (h.set pos x)
      | none => (pos, h)
    else (pos, h)
def siftup (pos : Nat) (h : List α) : List α :=
  match h[pos]? with
  | some new => let r := supp lt (h.length - pos) pos h; sdown lt pos new r.1 r.1 (r.2.set r.1 new)
  | none => h
theorem bigger_bound {h : List α} {c : Nat} (hc : c < h.length) : c ≤ bigger lt h c ∧ bigger lt h c < h.length ∧ bigger lt h c ≤ c + 1 := by
  unfold bigger
  by_cases q : c + 1 < h.length
  · rw [List.getElem?_eq_getElem q, List.getElem?_eq_getElem hc]
    dsimp only
    split <;> omega
  · rw [List.getElem?_eq_none (by omega)]
    cases h[c]? <;> (dsimp only; omega)
theorem supp_fuel : ∀ (f1 f2 pos : Nat) (h : List α), h.length - pos ≤ f1 → h.length - pos ≤ f2 → supp lt f1 pos h = supp lt f2 pos h
  | 0, 0, _, _, _, _ => rfl
  | 0, f2 + 1, pos, h, h1, _ => by rw [supp, supp, if_neg (by omega)]
  | f1 + 1, 0, pos, h, _, h2 => by rw [supp, supp, if_neg (by omega)]
  | f1 + 1, f2 + 1, pos, h, h1, h2 => by
    rw [supp, supp]
    by_cases q : 2 * pos + 1 < h.length
    · rw [if_pos q, if_pos q]
      have b := bigger_bound lt q
      rw [List.getElem?_eq_getElem b.2.1]
      exact supp_fuel f1 f2 _ _ (by rw [List.length_set]; omega) (by rw [List.length_set]; omega)
    · rw [if_neg q, if_neg q]
theorem supp_length : ∀ (f pos : Nat) (h : List α), (supp lt f pos h).2.length = h.length
  | 0, _, _ => rfl
  | f + 1, pos, h => by
    rw [supp]
    split
    · split
      · rw [supp_length]; simp
      · rfl
    · rfl
theorem supp_bound : ∀ (f pos : Nat) (h : List α), pos < h.length → (supp lt f pos h).1 < h.length
  | 0, _, _, h => h
  | f + 1, pos, h, hp => by
    rw [supp]
    by_cases q : 2 * pos + 1 < h.length
    · rw [if_pos q]
      have b := bigger_bound lt q
      rw [List.getElem?_eq_getElem b.2.1]
      dsimp only
      have := supp_bound f (bigger lt h (2 * pos + 1)) (h.set pos (h[bigger lt h (2 * pos + 1)]'b.2.1)) (by rw [List.length_set]; exact b.2.1)
      rw [List.length_set] at this
      exact this
    · rw [if_neg q]; exact hp
theorem supp_mem : ∀ (f pos : Nat) (h : List α) (x : α), x ∈ (supp lt f pos h).2 → x ∈ h
  | 0, _, _, _, hx => hx
  | f + 1, pos, h, x, hx => by
    rw [supp] at hx
    split at hx
    · split at hx
      · rename_i y hy
        have := supp_mem f _ _ x hx
        rcases List.mem_or_eq_of_mem_set this with h1 | rfl
        · exact h1
        · exact List.mem_of_getElem? hy
      · exact hx
    · exact hx
theorem siftup_length (pos : Nat) (h : List α) : (siftup lt pos h).length = h.length := by
  unfold siftup
  split
  · dsimp only
    rw [sdown_length, List.length_set, supp_length]
  · rfl
theorem sdown_mem (start : Nat) (new : α) : ∀ (f pos : Nat) (h : List α) (x : α), x ∈ sdown lt start new f pos h → x ∈ h ∨ x = new
  | 0, pos, h, x, hx => by
    rw [sdown] at hx
    exact List.mem_or_eq_of_mem_set hx
  | f + 1, pos, h, x, hx => by
    rw [sdown] at hx
    split at hx
    · split at hx
      · rename_i y hy
        split at hx
        · rcases sdown_mem start new f _ _ x hx with h1 | h1
          · rcases List.mem_or_eq_of_mem_set h1 with h2 | rfl
            · exact .inl h2
            · exact .inl (List.mem_of_getElem? hy)
          · exact .inr h1
        · exact List.mem_or_eq_of_mem_set hx
      · exact List.mem_or_eq_of_mem_set hx
    · exact List.mem_or_eq_of_mem_set hx
theorem siftup_mem (pos : Nat) (h : List α) (x : α) (hx : x ∈ siftup lt pos h) : x ∈ h := by
  unfold siftup at hx
  split at hx
  · rename_i new hn
    dsimp only at hx
    rcases sdown_mem lt _ _ _ _ _ _ hx with h1 | rfl
    · rcases List.mem_or_eq_of_mem_set h1 with h2 | rfl
      · exact supp_mem lt _ _ _ _ h2
      · exact List.mem_of_getElem? hn
    · exact List.mem_of_getElem? hn
  · exact hx
end pure

section
variable {prog : Program} {w : World} {A : Around} {Q E : Value → Shared → Prop} {B h : Heap} {fz : List Ent} {g : Array GenState} {d : Drawn} {t : Nat} {os : OsState} {mg mb : Str → Option Value} {fa : Nat → Addr}
abbrev vlt (x y : Value × Tri) : Bool := tlt x.2 y.2

theorem siftup_call {l : Addr} {K : (Obj → Prop) → List Ent} {items : List (Value × Tri)} {p : Nat} {t1 : Tok} (S : Stat B mg mb fa)
    (hK : ∀ P P', Put l P P' (K P) (K P')) (D : Led B h (K (LListP (items.map (·.1)))) fz)
    (hT : ∀ x, x ∈ items → IsTri fz x.1 x.2) (hp : p < items.length) (hlen : items.length < 2 ^ 58)
    (hd : A.depth + 1 < recursionLimit) (hu : A.units + 20 < cLine)
    (hq : ∀ h' t', Led B h' (K (LListP ((siftup vlt p items).map (·.1)))) fz → Q .none ⟨h', g, d, t', os⟩) :
    wpAny (model prog w) A (call (.ref (fa 4)) [.ref l, .int p t1]) Q E ⟨h, g, d, t, os⟩ := by
  obtain ⟨nv, hn⟩ : ∃ nv, items[p]? = some nv := ⟨items[p], List.getElem?_eq_getElem hp⟩
  refine enter (binds := [(Str.ofString "heap", .ref l), (Str.ofString "pos", .int p t1)]) S.lim (S.fn 4 _ (by walk_at "mem")).2 D (by omega) (fun _ _ _ _ _ _ => by rfl) (by decide +kernel) (by rfl) (by rfl) (fun cdv L h' t' D' => ?_)
  walk_at "as"
  refine Call_ ?_
  walk_at "nb"
  refine PyProof.Rows.callWith_builtin1 ?_
  refine args_cons ?_
  walk_at "nl"
  refine args_nil ?_
  refine o_len (D'.list (.tail _ (hK _ (LListP [])).mem)) (by simp; omega) (fun u t2 => ?_)
  rw [List.length_map]
  walk_at "st"
  intro h1 tk1 D1
  walk_at "as"
  walk_at "nl"
  walk_at "st"
  intro h2 tk2 D2
  walk_at "as"
  refine Subscript_ ?_
  walk_at "nl"
  walk_at "nl"
  refine item_list (v := nv.1) (D2.list (.tail _ (hK _ (LListP [])).mem)) (by omega) (by omega) (by rw [Int.toNat_natCast, List.getElem?_map, hn]; rfl) ?_
  walk_at "st"
  intro h3 tk3 D3
  walk_at "as"
  refine wpAny_BinOp ?_
  refine wpAny_BinOp ?_
  walk_at "ci"
  walk_at "nl"
  refine o_mul ?_
  walk_at "ci"
  refine o_add ?_
  rw [show (2 * (p : Int) + 1) = ((2 * p + 1 : Nat) : Int) by omega]
  walk_at "st"
  intro h4 tk4 D4
  refine wpAny_execs_cons ?_
  refine while_ (fun k s => ∃ h' t' tp tc, ∃ n : Nat, ∃ it : List (Value × Tri), s = ⟨h', g, d, t', os⟩ ∧ k = items.length - n ∧
    Led B h' ((L, FrameP [(Str.ofString "heap", .ref l), (Str.ofString "pos", .int n tp), (Str.ofString "endpos", .int items.length u), (Str.ofString "startpos", .int p t1), (Str.ofString "newitem", nv.1), (Str.ofString "childpos", .int ((2 * n + 1 : Nat) : Int) tc)]) :: K (LListP (it.map (·.1)))) fz ∧
    (∀ x, x ∈ it → x ∈ items) ∧ it.length = items.length ∧ n < items.length ∧ supp vlt (items.length - n) n it = supp vlt (items.length - p) p items)
    (fun s => ∃ h' t' tp tc, ∃ n : Nat, ∃ it : List (Value × Tri), s = ⟨h', g, d, t', os⟩ ∧
    Led B h' ((L, FrameP [(Str.ofString "heap", .ref l), (Str.ofString "pos", .int n tp), (Str.ofString "endpos", .int items.length u), (Str.ofString "startpos", .int p t1), (Str.ofString "newitem", nv.1), (Str.ofString "childpos", .int ((2 * n + 1 : Nat) : Int) tc)]) :: K (LListP (it.map (·.1)))) fz ∧
    (∀ x, x ∈ it → x ∈ items) ∧ it.length = items.length ∧ n < items.length ∧ supp vlt (items.length - p) p items = (n, it))
    (items.length - p) ⟨h4, tk4, t1, _, p, items, rfl, rfl, D4, fun _ hx => hx, rfl, hp, rfl⟩ ?turn ?post
  case post =>
    intro s hEx
    refine cps fun PP kk => ?_
    obtain ⟨h5, tk5, tp, tc, n, it, rfl, D5, hm5, hl5, hn5, he⟩ := hEx
    refine kk ?_
    clear kk PP
    walk_at "ss"
    walk_at "nl"
    walk_at "nl"
    walk_at "nl"
    refine set_item D5 (.there (hK _ _)) (by omega) (by omega) (by simp; omega) ?_
    intro h6 D6
    walk_at "ex"
    refine Call_ ?_
    walk_at "nf"
    refine callWith_fn (S.fn 3 _ (by walk_at "mem")).2 ?_
    refine args_cons ?_
    walk_at "nl"
    refine args_cons ?_
    walk_at "nl"
    refine args_cons ?_
    walk_at "nl"
    refine args_nil ?_
    refine ⟨D6.keep, ?_⟩
    rw [Int.toNat_natCast, ← List.map_set] at D6
    have hnv : nv ∈ items := List.mem_of_getElem? hn
    refine siftdown_call (K := fun P => (L, FrameP [(Str.ofString "heap", .ref l), (Str.ofString "pos", .int n tp), (Str.ofString "endpos", .int items.length u), (Str.ofString "startpos", .int p t1), (Str.ofString "newitem", nv.1), (Str.ofString "childpos", .int ((2 * n + 1 : Nat) : Int) tc)]) :: K P)
      (items := it.set n nv) (nv := nv) S.lim (S.fn 3 _ (by walk_at "mem")).2 (fun P P' => .there (hK P P')) D6 ?_ ?_ (by simp; omega) (by show A.depth + 1 < _; omega) (by show A.units + 3 + 10 < cLine; omega) ?_
    · intro x hx
      rcases List.mem_or_eq_of_mem_set hx with hx | rfl
      · exact hT _ (hm5 _ hx)
      · exact hT _ hnv
    · rw [List.getElem?_set_self (by omega)]
    · intro h7 t7 D7
      refine wpAny_execs_nil ?_
      refine hq _ _ ?_
      have e : siftup vlt p items = sdown (fun x y => tlt x.2 y.2) p nv n n (it.set n nv) := by
        unfold siftup
        rw [hn]
        dsimp only
        rw [he]
      rw [e]
      exact D7.drop
  intro k s hEx
  refine cps fun PP kk => ?_
  obtain ⟨h5, tk5, tp, tc, n, it, rfl, rfl, D5, hm5, hl5, hn5, he⟩ := hEx
  refine kk ?_
  clear kk PP
  refine wpAny_isTrue_Compare1 ?_
  walk_at "nl"
  walk_at "nl"
  refine lt_int (wpAny_truthy_bool ?_)
  obtain ⟨fu, hfu⟩ : ∃ fu, items.length - n = fu + 1 := ⟨items.length - n - 1, by omega⟩
  rw [hfu] at he
  refine split_dec (fun hc => ?_) (fun hc => ?_)
  · have hc : 2 * n + 1 < it.length := by omega
    have bb := bigger_bound vlt hc
    walk_at "as"
    refine wpAny_BinOp ?_
    walk_at "nl"
    walk_at "ci"
    refine o_add ?_
    rw [show (((2 * n + 1 : Nat) : Int) + 1) = ((2 * n + 1 + 1 : Nat) : Int) by omega]
    walk_at "st"
    intro h6 tk6 D6
    obtain ⟨cv, hcv⟩ : ∃ cv, it[2 * n + 1]? = some cv := ⟨it[2 * n + 1], List.getElem?_eq_getElem hc⟩
    refine wpAny_execs_cons (wpAny_mono (Q := fun f s => f = .next ∧ ∃ h' t' tc tr, s = ⟨h', g, d, t', os⟩ ∧
      Led B h' ((L, FrameP [(Str.ofString "heap", .ref l), (Str.ofString "pos", .int n tp), (Str.ofString "endpos", .int items.length u), (Str.ofString "startpos", .int p t1), (Str.ofString "newitem", nv.1), (Str.ofString "childpos", .int (bigger vlt it (2 * n + 1)) tc), (Str.ofString "rightpos", .int ((2 * n + 1 + 1 : Nat) : Int) tr)]) :: K (LListP (it.map (·.1)))) fz) ?ifp ?rest (fun _ _ e => e))
    case ifp =>
      refine wpAny_If ?_
      refine isTrue_and ?_
      refine wpAny_isTrue_Compare1 ?_
      walk_at "nl"
      walk_at "nl"
      refine lt_int (wpAny_truthy_bool ?_)
      refine split_dec (fun hr => ?_) (fun hr => ?_)
      · have hr : 2 * n + 1 + 1 < it.length := by omega
        obtain ⟨rv, hrv⟩ : ∃ rv, it[2 * n + 1 + 1]? = some rv := ⟨it[2 * n + 1 + 1], List.getElem?_eq_getElem hr⟩
        refine isTrue_and ?_
        refine isTrue_not ?_
        refine wpAny_isTrue_Compare1 ?_
        refine Subscript_ ?_
        walk_at "nl"
        walk_at "nl"
        refine item_list (v := rv.1) (D6.list (.tail _ (hK _ (LListP [])).mem)) (by omega) (by omega) (by rw [Int.toNat_natCast, List.getElem?_map, hrv]; rfl) ?_
        refine Subscript_ ?_
        walk_at "nl"
        walk_at "nl"
        refine item_list (v := cv.1) (D6.list (.tail _ (hK _ (LListP [])).mem)) (by omega) (by omega) (by rw [Int.toNat_natCast, List.getElem?_map, hcv]; rfl) ?_
        refine cmp_lt (ltAt_tri D6 (hT _ (hm5 _ (List.mem_of_getElem? hrv))) (hT _ (hm5 _ (List.mem_of_getElem? hcv))) (by show A.units + 3 + 1 < cLine; omega)) (wpAny_truthy_bool ?_)
        have hb : bigger vlt it (2 * n + 1) = if vlt rv cv then 2 * n + 1 else 2 * n + 1 + 1 := by
          unfold bigger; rw [hrv, hcv]
        cases hlt : tlt rv.2 cv.2 with
        | true =>
          rw [hb, if_pos hlt]
          exact wpAny_execs_nil ⟨rfl, h6, _, _, _, rfl, D6⟩
        | false =>
          refine isTrue_and_nil ?_
          walk_at "as"
          walk_at "nl"
          walk_at "st"
          intro h7 tk7 D7
          rw [hb, if_neg (by show ¬ tlt rv.2 cv.2 = true; rw [hlt]; decide)]
          exact wpAny_execs_nil ⟨rfl, h7, _, _, _, rfl, D7⟩
      · have hr : ¬ 2 * n + 1 + 1 < it.length := by omega
        have hb : bigger vlt it (2 * n + 1) = 2 * n + 1 := by
          unfold bigger; rw [List.getElem?_eq_none (by omega), hcv]
        rw [hb]
        exact wpAny_execs_nil ⟨rfl, h6, _, _, _, rfl, D6⟩
    case rest =>
      intro f s hEx
      refine cps fun PP kk => ?_
      obtain ⟨rfl, h7, tk7, tc7, tr7, rfl, D7⟩ := hEx
      obtain ⟨bv, hbv⟩ : ∃ bv, it[bigger vlt it (2 * n + 1)]? = some bv := ⟨it[bigger vlt it (2 * n + 1)], List.getElem?_eq_getElem bb.2.1⟩
      refine kk ?_
      clear kk PP
      walk_at "ss"
      refine Subscript_ ?_
      walk_at "nl"
      walk_at "nl"
      refine item_list (v := bv.1) (D7.list (.tail _ (hK _ (LListP [])).mem)) (by omega) (by omega) (by rw [Int.toNat_natCast, List.getElem?_map, hbv]; rfl) ?_
      walk_at "nl"
      walk_at "nl"
      refine set_item D7 (.there (hK _ _)) (by omega) (by omega) (by simp; omega) ?_
      intro h8 D8
      walk_at "as"
      walk_at "nl"
      walk_at "st"
      intro h9 tk9 D9
      walk_at "as"
      refine wpAny_BinOp ?_
      refine wpAny_BinOp ?_
      walk_at "ci"
      walk_at "nl"
      refine o_mul ?_
      walk_at "ci"
      refine o_add ?_
      rw [show (2 * (bigger vlt it (2 * n + 1) : Int) + 1) = ((2 * bigger vlt it (2 * n + 1) + 1 : Nat) : Int) by omega]
      walk_at "st"
      intro h10 tk10 D10
      refine wpAny_execs_nil ?_
      have D11 := Led.fewer (kvs := [_, _, _, _, _, _]) (kvs' := [_]) D10
      rw [Int.toNat_natCast, ← List.map_set] at D11
      refine ⟨items.length - bigger vlt it (2 * n + 1), by omega, h10, _, _, _, bigger vlt it (2 * n + 1), it.set n bv, rfl, rfl, D11, ?_, by simpa using hl5, by omega, ?_⟩
      · intro x hx
        rcases List.mem_or_eq_of_mem_set hx with hx | rfl
        · exact hm5 _ hx
        · exact hm5 _ (List.mem_of_getElem? hbv)
      · rw [← he, supp, if_pos hc, hbv]
        exact supp_fuel vlt _ _ _ _ (by simp; omega) (by simp; omega)
  · refine ⟨h5, _, tp, tc, n, it, rfl, D5, hm5, hl5, hn5, ?_⟩
    rw [← he, supp, if_neg (by omega)]
end
end

section
/-! ## iterators -/
def RangeP (a b c : Int) (o : Obj) : Prop := ∃ t u v, o = { cls := .type "range", data := .fields #[.int a t, .int b u, .int c v] }
def RIterP (x left step : Int) (o : Obj) : Prop := o = { cls := .type "range_iterator", data := .fields #[rawInt x, rawInt left, rawInt step] }
def LIterP (l : Addr) (i : Nat) (o : Obj) : Prop := o.cls = .type "list_iterator" ∧ o.data = .fields #[.ref l, .int i 0]
def LDoneP (o : Obj) : Prop := o.cls = .type "list_iterator" ∧ ∃ i, o.data = .fields #[.none, i]
/-- an iterator over a list of n items, i of them gone -/
def TapeP (l : Addr) (n i : Nat) (o : Obj) : Prop := (LIterP l i o ∧ i ≤ n) ∨ (LDoneP o ∧ i = n)
def AnyP (_ : Obj) : Prop := True

section
variable {prog : Program} {w : World} {A : Around} {E : Value → Shared → Prop} {B h : Heap} {live live' fz rest : List Ent} {g : Array GenState} {d : Drawn} {t : Nat} {os : OsState} {f0 : Ent}

theorem Led.alloc2 {P : Obj → Prop} (D : Led B h (f0 :: rest) fz) {o : Obj} (hp : P o) (hf : o.isFreed = false) : Led B (h.push o) (f0 :: (h.objs.size, P) :: rest) fz :=
  (D.alloc hp hf).perm (List.Perm.swap _ _ _)
theorem Led.skip (D : Led B h live fz) {o : Obj} (hf : o.isFreed = false) : Led B (h.push o) live fz := (D.alloc (P := AnyP) (o := o) trivial hf).drop

theorem mk_range1 {Q : Value → Shared → Prop} {n : Int} {u : Tok} (D : Led B h (f0 :: rest) fz) (hq : ∀ r h' t', Led B h' (f0 :: (r, RangeP 0 n 1) :: rest) fz → Q (.ref r) ⟨h', g, d, t', os⟩) :
    wpAny (model prog w) A (call (.type "range") [.int n u]) Q E ⟨h, g, d, t, os⟩ :=
  call_range_1 (s := ⟨h, g, d, t, os⟩) (hq _ _ _ (D.alloc2 ⟨_, _, _, rfl⟩ rfl))
theorem mk_range2 {Q : Value → Shared → Prop} {a n : Int} {u v : Tok} (D : Led B h (f0 :: rest) fz) (hq : ∀ r h' t', Led B h' (f0 :: (r, RangeP a n 1) :: rest) fz → Q (.ref r) ⟨h', g, d, t', os⟩) :
    wpAny (model prog w) A (call (.type "range") [.int a u, .int n v]) Q E ⟨h, g, d, t, os⟩ :=
  call_range_2 (s := ⟨h, g, d, t, os⟩) (hq _ _ _ (D.alloc2 ⟨_, _, _, rfl⟩ rfl))

theorem it_range {Q : Value → Shared → Prop} {r : Addr} {a n : Int} (D : Led B h (f0 :: (r, RangeP a n 1) :: rest) fz) (h1 : -(2 ^ 62) ≤ a) (h2 : a < 2 ^ 62) (h3 : -(2 ^ 62) ≤ n) (h4 : n < 2 ^ 62)
    (hq : ∀ i h', Led B h' (f0 :: (i, RIterP a (if a < n then n - a else 0) 1) :: rest) fz → Q (.ref i) ⟨h', g, d, t, os⟩) : wpAny (model prog w) A (pyIter (.ref r)) Q E ⟨h, g, d, t, os⟩ := by
  obtain ⟨o, ho, t1, t2, t3, rfl⟩ := D.rd (.tail _ (.head _))
  refine wpAny_pyIter_range (s := ⟨h, g, d, t, os⟩) ho (small_one h1 h2 h3 h4) ?_
  rw [rangeSize_one]
  exact hq _ _ (Led.alloc2 (P := RIterP _ _ _) D.drop2 rfl rfl)
theorem it_riter {Q : Value → Shared → Prop} {i : Addr} {x left step : Int} (D : Led B h live fz) (hm : (i, RIterP x left step) ∈ live) (hq : Q (.ref i) ⟨h, g, d, t, os⟩) : wpAny (model prog w) A (pyIter (.ref i)) Q E ⟨h, g, d, t, os⟩ := by
  obtain ⟨o, ho, rfl⟩ := D.rd hm
  have hT : (⟨h, g, d, t, os⟩ : Shared).TypeIs (.ref i) "range_iterator" := ⟨_, ho, rfl⟩
  refine wpAny_pyIter_slot hT F.slot_range_iterator_iter (wpAny_call_entry F.slot_range_iterator_iter hT F.entry_range_iterator_iter ?_ (F.args_range_iterator_iter_1 _))
  show wpAny _ _ (ret (.ref i)) _ _ _
  exact wpAny_pure ⟨_, rfl, "range_iterator", _, hT, F.slot_range_iterator_next.lookup, hq⟩
theorem next_riter {Q : Option Value → Shared → Prop} {i : Addr} {x left step : Int} (D : Led B h live fz) (u : Put i (RIterP x left step) (RIterP (x + step) (left - 1) step) live live') (hl : 0 < left)
    (hq : ∀ h' t', Led B h' live' fz → Q (some (.int x t)) ⟨h', g, d, t', os⟩) : wpAny (model prog w) A (pyNext (.ref i)) Q E ⟨h, g, d, t, os⟩ := by
  obtain ⟨o, ho, rfl⟩ := D.rd u.mem
  exact wpAny_pyNext_range_item (s := ⟨h, g, d, t, os⟩) ho hl fun h' hi hs => hq _ _ (D.same u hs hi rfl)
theorem next_rend {Q : Option Value → Shared → Prop} {i : Addr} {x left step : Int} (D : Led B h live fz) (hm : (i, RIterP x left step) ∈ live) (hh : A.handled = none) (hl : left ≤ 0)
    (hq : ∀ h', Led B h' live fz → Q none ⟨h', g, d, t, os⟩) : wpAny (model prog w) A (pyNext (.ref i)) Q E ⟨h, g, d, t, os⟩ := by
  obtain ⟨o, ho, rfl⟩ := D.rd hm
  have hT : (⟨h, g, d, t, os⟩ : Shared).TypeIs (.ref i) "range_iterator" := ⟨_, ho, rfl⟩
  unfold pyNext
  refine wpAny_bind (wpAny_attempt (wpAny_callSpecial?_slot (name := Str.ofString "__next__") hT F.slot_range_iterator_next
    (wpAny_call_entry F.slot_range_iterator_next hT F.entry_range_iterator_next ?_ (F.args_range_iterator_next_1 _))))
  show wpAny _ _ (field (.ref i) 0 >>= _) _ _ _
  refine wpAny_bind (wpAny_field (s := ⟨h, g, d, t, os⟩) ho rfl (x := rawInt x) rfl ?_)
  show wpAny _ _ (field (.ref i) 1 >>= _) _ _ _
  refine wpAny_bind (wpAny_field (s := ⟨h, g, d, t, os⟩) ho rfl (x := rawInt left) rfl ?_)
  show wpAny _ _ (field (.ref i) 2 >>= _) _ _ _
  refine wpAny_bind (wpAny_field (s := ⟨h, g, d, t, os⟩) ho rfl (x := rawInt step) rfl ?_)
  show wpAny _ _ (if left ≤ 0 then _ else _) _ _ _
  rw [if_pos hl]
  refine wpAny_bind (wpAny_rule ?_)
  refine wpAny_bind ?_
  show wpAny _ _ (newExc (.type "StopIteration") [] >>= _) _ _ _
  refine wpAny_bind ?_
  simp only [newExc, newTuple]
  refine wpAny_bind (wpAny_newObj_type ?_ (by size_fits))
  refine wpAny_bind (m := firstArgMember _ _) (wpAny_of_eq (a := Value.none) (by first | rfl | (simp only [firstArgMember]; rfl)) ?_)
  refine wpAny_newObj_type ?_ (by size_fits)
  simp only [raiseNew]
  refine wpAny_bind (wpAny_handled ?_)
  rw [show A.in1.handled = none from hh]
  refine wpAny_bind (wpAny_pure (wpAny_throw ?_))
  refine wpAny_bind (wpAny_isInstance (T := "StopIteration") (b := true) ⟨_, Heap.get?_push_size _ rfl, rfl⟩ isSubtype_stop ?_)
  exact wpAny_pure (hq _ ((D.skip rfl).skip rfl))

/-! ### reversed(range(n)) -/
theorem sub_ri_reversed : isSubtype (.type "range_iterator") (.type "reversed") = pure false := by rw [isSubtype_type]; kernel_rfl

theorem mk_reversed {Q : Value → Shared → Prop} {r : Addr} {n : Int} (D : Led B h (f0 :: (r, RangeP 0 n 1) :: rest) fz) (h0 : 0 ≤ n) (h4 : n < 2 ^ 62)
    (hq : ∀ i h', Led B h' (f0 :: (i, RIterP (n - 1) n (-1)) :: rest) fz → Q (.ref i) ⟨h', g, d, t, os⟩) : wpAny (model prog w) A (call (.type "reversed") [.ref r]) Q E ⟨h, g, d, t, os⟩ := by
  obtain ⟨o, ho, t1, t2, t3, rfl⟩ := D.rd (.tail _ (.head _))
  have hT : (⟨h, g, d, t, os⟩ : Shared).TypeIs (.ref r) "range" := ⟨_, ho, rfl⟩
  have D' : Led B (h.push { cls := .type "range_iterator", data := .fields #[rawInt (n - 1), rawInt n, rawInt (-1)] }) (f0 :: (h.objs.size, RIterP (n - 1) n (-1)) :: rest) fz := Led.alloc2 (P := RIterP _ _ _) D.drop2 rfl rfl
  refine callType_other (U := "range_iterator") (Q₁ := fun obj s₁ => obj = .ref h.objs.size ∧ s₁ = ⟨h.push { cls := .type "range_iterator", data := .fields #[rawInt (n - 1), rawInt n, rawInt (-1)] }, g, d, t, os⟩) (by decide +kernel) F.create_reversed ⟨_, _, F.mro_reversed⟩ F.made_reversed sub_ri_reversed (F.typeCall_reversed_1 _) ?_ ?_
  · refine codeAny_of_tree ?_
    show wpAny _ _ (do checkBuiltinCall "reversed.__new__" ⟨[.type "reversed", .ref r], []⟩; again (.builtin "reversed.__new__" ⟨[.type "reversed", .ref r], []⟩)) _ _ _
    refine wpAny_bind (wpAny_of_eq (F.newCall_reversed_1 _) (wpAny_pure ⟨plainId_quiet F.plain_reversed_new _, codeAny_builtin F.entry_reversed_new ?_⟩))
    rw [Around.under_plainId F.plain_reversed_new _]
    unfold Builtin.«reversed.__new__»
    refine wpAny_bind (wpAny_of_eq (newClass_reversed _) ?_)
    try dsimp only
    refine wpAny_bind (wpAny_of_eq (a := ()) (by first | rfl | kernel_rfl) ?_)
    refine wpAny_bind (wpAny_of_eq (a := ()) (by first | rfl | kernel_rfl) ?_)
    try dsimp only
    refine wpAny_bind (wpAny_specialOf hT F.slot_range_reversed.lookup ?_)
    try dsimp only
    refine wpAny_bind (wpAny_of_eq (F.slot_range_reversed.bind _) ?_)
    try dsimp only
    first
    | rw [if_neg (show ¬ ((Value.builtin "range.__reversed__" == Value.none) = true) from Bool.false_ne_true)]
    | (show wpAny _ _ (if (Value.builtin "range.__reversed__" == Value.none) = true then _ else _) _ _ _; rw [if_neg (show ¬ ((Value.builtin "range.__reversed__" == Value.none) = true) from Bool.false_ne_true)])
    refine wpAny_bind (wpAny_rule ?_)
    refine wpAny_bind (m := runValue (.call (.builtin "range.__reversed__") ⟨[.ref r], []⟩)) (show wpAny _ _ (call (.builtin "range.__reversed__") [.ref r]) _ _ _ from ?_)
    refine wpAny_call_entry F.slot_range_reversed hT F.entry_range_reversed ?_ (F.args_range_reversed_1 _)
    unfold Builtin.«range.__reversed__»
    refine wpAny_bind (wpAny_of_eq (a := Value.ref r) rfl ?_)
    refine wpAny_bind (m := Builtin.Range.rangeFields (.ref r)) ?_
    unfold Builtin.Range.rangeFields
    refine wpAny_bind (wpAny_field (s := ⟨h, g, d, t, os⟩) ho rfl (x := .int 0 t1) rfl ?_)
    refine wpAny_bind (wpAny_of_eq (a := some 0) rfl ?_)
    refine wpAny_bind (wpAny_field (s := ⟨h, g, d, t, os⟩) ho rfl (x := .int n t2) rfl ?_)
    refine wpAny_bind (wpAny_of_eq (a := some n) rfl ?_)
    refine wpAny_bind (wpAny_field (s := ⟨h, g, d, t, os⟩) ho rfl (x := .int 1 t3) rfl ?_)
    refine wpAny_bind (wpAny_of_eq (a := some 1) rfl ?_)
    refine wpAny_pure ?_
    have hsz : Builtin.Range.rangeSize 0 n 1 = n := by rw [rangeSize_one]; split <;> omega
    have hsm : (Builtin.Range.rangeFitsLong 0 && Builtin.Range.rangeFitsLong n && Builtin.Range.rangeFitsLong 1 && Builtin.Range.rangeFitsLong (-1) && Builtin.Range.rangeFitsLong (0 - 1) && Builtin.Range.rangeFitsLong n) = true := by
      simp only [Builtin.Range.rangeFitsLong, Bool.and_eq_true, decide_eq_true_eq]
      omega
    dsimp only
    rw [hsz, hsm]
    simp only [Bool.not_true, Bool.false_eq_true, if_false, if_true]
    rw [show (0 : Int) + (n - 1) * 1 = n - 1 by omega]
    refine wpAny_bind (wpAny_newObj_type (s := ⟨h, g, d, t, os⟩) ?_)
    refine wpAny_pure ⟨_, rfl, ?_⟩
    exact wpAny_pure ⟨rfl, rfl⟩
  · rintro obj s₁ ⟨rfl, rfl⟩
    exact ⟨⟨_, Heap.get?_push_size _ rfl, rfl⟩, hq _ _ D'⟩
end
end

section
/-! ## _heapify_max, _heapreplace_max -/
section pure
variable {α : Type} (lt : α → α → Bool)
def hfy : Nat → List α → List α
  | 0, h => h
  | k + 1, h => hfy k (siftup lt k h)
theorem hfy_length : ∀ (k : Nat) (h : List α), (hfy lt k h).length = h.length
  | 0, _ => rfl
  | k + 1, h => by rw [hfy, hfy_length, siftup_length]
theorem hfy_mem : ∀ (k : Nat) (h : List α) (x : α), x ∈ hfy lt k h → x ∈ h
  | 0, _, _, hx => hx
  | k + 1, h, x, hx => siftup_mem lt _ _ _ (hfy_mem k _ x hx)
end pure

section
variable {prog : Program} {w : World} {A : Around} {Q E : Value → Shared → Prop} {B h : Heap} {fz : List Ent} {g : Array GenState} {d : Drawn} {t : Nat} {os : OsState} {mg mb : Str → Option Value} {fa : Nat → Addr}

theorem heapify_call {l : Addr} {K : (Obj → Prop) → List Ent} {items : List (Value × Tri)} (S : Stat B mg mb fa) (hh : A.handled = none)
    (hK : ∀ P P', Put l P P' (K P) (K P')) (D : Led B h (K (LListP (items.map (·.1)))) fz)
    (hT : ∀ x, x ∈ items → IsTri fz x.1 x.2) (hlen : items.length < 2 ^ 58)
    (hd : A.depth + 2 < recursionLimit) (hu : A.units + 30 < cLine)
    (hq : ∀ h' t', Led B h' (K (LListP ((hfy vlt (items.length / 2) items).map (·.1)))) fz → Q .none ⟨h', g, d, t', os⟩) :
    wpAny (model prog w) A (call (.ref (fa 2)) [.ref l]) Q E ⟨h, g, d, t, os⟩ := by
  refine enter (binds := [(Str.ofString "x", .ref l)]) S.lim (S.fn 2 _ (by walk_at "mem")).2 D (by omega) (fun _ _ _ _ _ _ => by rfl) (by decide +kernel) (by rfl) (by rfl) (fun cdv L h' t' D' => ?_)
  walk_at "as"
  refine Call_ ?_
  walk_at "nb"
  refine PyProof.Rows.callWith_builtin1 ?_
  refine args_cons ?_
  walk_at "nl"
  refine args_nil ?_
  refine o_len (D'.list (.tail _ (hK _ (LListP [])).mem)) (by simp; omega) (fun u t2 => ?_)
  rw [List.length_map]
  walk_at "st"
  intro h1 tk1 D1
  refine wpAny_execs_cons ?_
  refine wpAny_For ?_
  refine Call_ ?_
  walk_at "nb"
  refine Pv.callWith_type1 ?_
  refine args_cons ?_
  refine Call_ ?_
  walk_at "nb"
  refine Pv.callWith_type1 ?_
  refine args_cons ?_
  refine wpAny_BinOp ?_
  walk_at "nl"
  walk_at "ci"
  refine floordiv_int (by decide) ?_ 
  rw [show (items.length : Int).fdiv 2 = ((items.length / 2 : Nat) : Int) by rw [Int.fdiv_eq_ediv_of_nonneg _ (by decide)]; omega]
  refine args_nil ?_
  refine mk_range1 D1 (fun r h2 t3 D2 => ?_)
  refine args_nil ?_
  refine mk_reversed D2 (by omega) (by omega) (fun i h3 D3 => ?_)
  refine it_riter D3 (by walk_at "mem") ?_
  refine codeAny_forLoop (fun k s => ∃ h' t', ∃ it : List (Value × Tri), s = ⟨h', g, d, t', os⟩ ∧
    Led B h' ((L, FrameP [(Str.ofString "x", .ref l), (Str.ofString "n", .int items.length u)]) :: (i, RIterP ((k : Int) - 1) k (-1)) :: K (LListP (it.map (·.1)))) fz ∧
    (∀ x, x ∈ it → x ∈ items) ∧ it.length = items.length ∧ k ≤ items.length / 2 ∧ hfy vlt k it = hfy vlt (items.length / 2) items) ?turn (items.length / 2)
    ⟨h3, _, items, rfl, D3, fun _ hx => hx, rfl, Nat.le_refl _, rfl⟩
  intro k s hEx
  refine cps fun PP kk => ?_
  obtain ⟨h4, t4, it, rfl, D4, hm4, hl4, hk4, he4⟩ := hEx
  refine kk ?_
  clear kk PP
  cases k with
  | zero =>
    refine next_rend D4 (by walk_at "mem") hh (by omega) (fun h5 D5 => ?_)
    refine wpAny_execs_nil ?_
    refine wpAny_execs_nil ?_
    refine hq _ _ ?_
    rw [← he4]
    exact D5.drop.drop
  | succ k =>
    refine next_riter D4 (by walk_at "put") (by omega) (fun h5 t5 D5 => ?_)
    rw [show (((k + 1 : Nat) : Int) - 1) = (k : Int) by omega] at D5 ⊢
    refine wpAny_assign_Name ?_
    walk_at "st"
    intro h6 t6 D6
    walk_at "ex"
    refine Call_ ?_
    walk_at "nf"
    refine callWith_fn (S.fn 4 _ (by walk_at "mem")).2 ?_
    refine args_cons ?_
    walk_at "nl"
    refine args_cons ?_
    walk_at "nl"
    refine args_nil ?_
    refine ⟨D6.keep, ?_⟩
    refine siftup_call (K := fun P => (L, FrameP [(Str.ofString "x", .ref l), (Str.ofString "n", .int items.length u), (Str.ofString "i", .int k t4)]) :: (i, RIterP ((k : Int) + -1) k (-1)) :: K P)
      (items := it) S (fun P P' => .there (.there (hK P P'))) D6 (fun x hx => hT _ (hm4 _ hx)) (by omega) (by omega) (by show A.depth + 1 + 1 < _; omega) (by show A.units + 3 + 20 < cLine; omega) ?_
    intro h7 t7 D7
    refine wpAny_execs_nil ?_
    refine ⟨k, Nat.lt_succ_self _, h7, t7, siftup vlt k it, rfl, Led.fewer (kvs := [_, _]) (kvs' := [_]) D7, fun x hx => hm4 _ (siftup_mem vlt _ _ _ hx), by rw [siftup_length]; exact hl4, by omega, ?_⟩
    rw [← he4, hfy]

theorem heapreplace_call {l : Addr} {K : (Obj → Prop) → List Ent} {items : List (Value × Tri)} {hd0 : Value × Tri} {item : Value × Tri} (S : Stat B mg mb fa)
    (hK : ∀ P P', Put l P P' (K P) (K P')) (D : Led B h (K (LListP (items.map (·.1)))) fz)
    (hT : ∀ x, x ∈ items → IsTri fz x.1 x.2) (hT' : IsTri fz item.1 item.2) (h0 : items[0]? = some hd0) (hlen : items.length < 2 ^ 58)
    (hd : A.depth + 2 < recursionLimit) (hu : A.units + 30 < cLine)
    (hq : ∀ h' t', Led B h' (K (LListP ((siftup vlt 0 (items.set 0 item)).map (·.1)))) fz → Q hd0.1 ⟨h', g, d, t', os⟩) :
    wpAny (model prog w) A (call (.ref (fa 1)) [.ref l, item.1]) Q E ⟨h, g, d, t, os⟩ := by
  have hp : 0 < items.length := (List.getElem?_eq_some_iff.mp h0).1
  refine enter (binds := [(Str.ofString "heap", .ref l), (Str.ofString "item", item.1)]) S.lim (S.fn 1 _ (by walk_at "mem")).2 D (by omega) (fun _ _ _ _ _ _ => by rfl) (by decide +kernel) (by rfl) (by rfl) (fun cdv L h' t' D' => ?_)
  walk_at "as"
  refine Subscript_ ?_
  walk_at "nl"
  walk_at "ci"
  refine item_list (v := hd0.1) (D'.list (.tail _ (hK _ (LListP [])).mem)) (by omega) (by omega) (by show (List.map _ items)[0]? = _; rw [List.getElem?_map, h0]; rfl) ?_
  walk_at "st"
  intro h1 t1 D1
  walk_at "ss"
  walk_at "nl"
  walk_at "nl"
  walk_at "ci"
  refine set_item D1 (.there (hK _ _)) (by omega) (by omega) (by simp; omega) ?_
  intro h2 D2
  rw [show (0 : Int).toNat = 0 from rfl, ← List.map_set] at D2
  walk_at "ex"
  refine Call_ ?_
  walk_at "nf"
  refine callWith_fn (S.fn 4 _ (by walk_at "mem")).2 ?_
  refine args_cons ?_
  walk_at "nl"
  refine args_cons ?_
  walk_at "ci"
  refine args_nil ?_
  refine ⟨D2.keep, ?_⟩
  refine siftup_call (p := 0) (K := fun P => (L, FrameP [(Str.ofString "heap", .ref l), (Str.ofString "item", item.1), (Str.ofString "returnitem", hd0.1)]) :: K P)
      (items := items.set 0 item) S (fun P P' => .there (hK P P')) D2 ?_ (by simpa using hp) (by simpa using hlen) (by show A.depth + 1 + 1 < _; omega) (by show A.units + 3 + 20 < cLine; omega) ?_
  · intro x hx
    rcases List.mem_or_eq_of_mem_set hx with hx | rfl
    · exact hT _ hx
    · exact hT'
  · intro h3 t3 D3
    refine wpAny_execs_cons ?_
    refine wpAny_Return_some ?_
    walk_at "nl"
    exact hq _ _ D3.drop
end
end

section
/-! ## exceptions on their way -/
def ExcP (cls : String) (a0 tb : Value) (o : Obj) : Prop := o.cls = .type cls ∧ ∃ vs, o.data = .fields vs ∧ vs[0]? = some a0 ∧ vs[1]? = some tb
def TbP (fl : Value) (o : Obj) : Prop := ∃ ts, o.data = .fields ts ∧ ts[3]? = some fl
def FrOk (live : List Ent) (envs : List Env) : Prop := ∀ env, env ∈ envs → env.scope.kind ≠ .module ∧ ∃ L kvs, env.frame = some L ∧ (L, FrameP kvs) ∈ live

/-- raised, not noted yet -/
def Raw (B h : Heap) (live fz : List Ent) (e : Addr) (cls : String) (a0 : Value) : Prop := Led B h ((e, ExcP cls a0 .none) :: live) fz
/-- on its way, its newest entry marked -/
def Fly (B h : Heap) (live fz : List Ent) (e : Addr) (cls : String) (a0 fl : Value) : Prop := ∃ T, Led B h ((e, ExcP cls a0 (.ref T)) :: (T, TbP fl) :: live) fz

section
variable {prog : Program} {w : World} {M : Model} {A : Around} {E : Value → Shared → Prop} {B h : Heap} {live fz : List Ent} {g : Array GenState} {d : Drawn} {t : Nat} {os : OsState} {e : Addr} {cls : String} {a0 fl : Value} {env : Env} {outer : List Env} {L : Addr}

theorem mem_unique {a : Addr} {P P' : Obj → Prop} : ∀ {l : List Ent}, (l.map (·.1)).Nodup → (a, P) ∈ l → (a, P') ∈ l → P = P'
  | [], _, h, _ => nomatch h
  | x :: l, nd, h1, h2 => by
    rw [List.map_cons, List.nodup_cons] at nd
    rcases List.mem_cons.mp h1 with e1 | k1
    · rcases List.mem_cons.mp h2 with e2 | k2
      · have := e1.trans e2.symm; injection this
      · exact absurd (by rw [← e1]; exact List.mem_map_of_mem (f := (·.1)) k2) nd.1
    · rcases List.mem_cons.mp h2 with e2 | k2
      · exact absurd (by rw [← e2]; exact List.mem_map_of_mem (f := (·.1)) k1) nd.1
      · exact mem_unique nd.2 k1 k2

theorem Led.slots (D : Led B h live fz) {S : List Addr} {h' : Heap} (x : Heap.SlotsOnly S h h') (hS : ∀ a, a ∈ S → ∃ kvs, (a, FrameP kvs) ∈ live) : Led B h' live fz := by
  have base : ∀ a, a ∈ S → B.get? a = none := fun a ha => let ⟨kvs, hm⟩ := hS a ha; (D.lv _ hm).2
  refine ⟨fun b o hb => ?_, fun p hp => ?_, fun p hp => ?_, D.nd, D.sp⟩
  · rw [x.2.1 b fun hm => by rw [base b hm] at hb; cases hb]; exact D.keep b o hb
  · obtain ⟨⟨o, ho, hq⟩, hge⟩ := D.lv p hp
    by_cases hm : p.1 ∈ S
    · obtain ⟨kvs, hk⟩ := hS _ hm
      obtain ⟨sl, hsl⟩ := x.2.2 _ _ ho
      have e : p.2 = FrameP kvs := mem_unique D.nd (show (p.1, p.2) ∈ live from hp) hk
      rw [e] at hq ⊢
      exact ⟨⟨_, hsl, hq.slots sl⟩, hge⟩
    · exact ⟨⟨o, (x.2.1 _ hm).trans ho, hq⟩, hge⟩
  · obtain ⟨⟨o, ho, hq⟩, hge⟩ := D.fv p hp
    refine ⟨⟨o, (x.2.1 _ fun hm => ?_).trans ho, hq⟩, hge⟩
    obtain ⟨kvs, hk⟩ := hS _ hm
    exact D.sp p hp (List.mem_map_of_mem (f := (·.1)) hk)

theorem FrOk.fun (D : Led B h live fz) : ∀ {envs : List Env}, FrOk live envs → h.FunFrames B envs
  | [], _ => trivial
  | env :: envs, H => by
    obtain ⟨hk, L, kvs, hf, hm⟩ := H env (.head _)
    obtain ⟨o, ho, es, ep, hd, _⟩ := D.rd hm
    exact ⟨hk, ⟨L, o, hf, (D.lv _ hm).2, ho, fun vs q => by rw [hd] at q; cases q⟩, FrOk.fun D fun env' he => H env' (.tail _ he)⟩
theorem FrOk.slotsMem {envs : List Env} (H : FrOk live envs) : ∀ a, a ∈ envs.filterMap (·.frame) → ∃ kvs, (a, FrameP kvs) ∈ live := by
  intro a ha
  obtain ⟨env, he, hf⟩ := List.mem_filterMap.mp ha
  obtain ⟨_, L, kvs, hf', hm⟩ := H env he
  rw [hf'] at hf
  cases hf
  exact ⟨kvs, hm⟩
theorem FrOk.mono {live' : List Ent} {envs : List Env} (H : FrOk live envs) (hs : ∀ p, p ∈ live → p ∈ live') : FrOk live' envs := fun env he => let ⟨hk, L, kvs, hf, hm⟩ := H env he; ⟨hk, L, kvs, hf, hs _ hm⟩

theorem setField_led {live' : List Ent} {a : Addr} {P P' : Obj → Prop} {i : Nat} {v : Value} {Q : Unit → Shared → Prop} (D : Led B h live fz) (u : Put a P P' live live') (hP : ∀ o, P o → ∃ vs, o.data = .fields vs ∧ i < vs.size ∧ P' (Obj.mapFields (·.setIfInBounds i v) o))
    (hq : ∀ h', Led B h' live' fz → Q () ⟨h', g, d, t, os⟩) : wpAny M A (setField (.ref a) i v) Q E ⟨h, g, d, t, os⟩ := by
  obtain ⟨o, ho, hp⟩ := D.rd u.mem
  obtain ⟨vs, hd, hi, hp'⟩ := hP o hp
  refine wpAny_setField (s := ⟨h, g, d, t, os⟩) ho hd hi (hq _ ?_)
  exact D.upd u ho hp' (Obj.isFreed_of_fields (Obj.data_mapFields hd _))

theorem tb_set {fl fl' : Value} {o : Obj} (hp : TbP fl o) : ∃ vs, o.data = .fields vs ∧ 3 < vs.size ∧ TbP fl' (Obj.mapFields (·.setIfInBounds 3 fl') o) := by
  obtain ⟨ts, hd, h3⟩ := hp
  have hlt := (Array.getElem?_eq_some_iff.mp h3).1
  exact ⟨ts, hd, hlt, _, Obj.data_mapFields hd _, by simp [hlt]⟩
theorem exc_set {tb tb' : Value} {o : Obj} (hp : ExcP cls a0 tb o) : ∃ vs, o.data = .fields vs ∧ 1 < vs.size ∧ ExcP cls a0 tb' (Obj.mapFields (·.setIfInBounds 1 tb') o) := by
  obtain ⟨hc, vs, hd, h0, h1⟩ := hp
  have hlt := (Array.getElem?_eq_some_iff.mp h1).1
  exact ⟨vs, hd, hlt, (Obj.cls_mapFields ..).trans hc, _, Obj.data_mapFields hd _, by rw [Array.getElem?_setIfInBounds_ne (by decide)]; exact h0, by simp [hlt]⟩
theorem exc_field {tb : Value} {Q : Value → Shared → Prop} (D : Led B h live fz) (hm : (e, ExcP cls a0 tb) ∈ live) (hq : Q tb ⟨h, g, d, t, os⟩) : wpAny M A (field (.ref e) 1) Q E ⟨h, g, d, t, os⟩ := by
  obtain ⟨o, ho, _, vs, hd, _, h1⟩ := D.rd hm
  exact wpAny_field (s := ⟨h, g, d, t, os⟩) ho hd h1 hq
theorem tb_field {T : Addr} {Q : Value → Shared → Prop} (D : Led B h live fz) (hm : (T, TbP fl) ∈ live) (hq : Q fl ⟨h, g, d, t, os⟩) : wpAny M A (field (.ref T) 3) Q E ⟨h, g, d, t, os⟩ := by
  obtain ⟨o, ho, ts, hd, h3⟩ := D.rd hm
  exact wpAny_field (s := ⟨h, g, d, t, os⟩) ho hd h3 hq

theorem new_entry {x : Ent} {head : Value} {hn : Bool} {Q : Unit → Shared → Prop} (hfr : A.frames = some (env :: outer)) (hF : FrOk live (env :: outer)) (hf : env.frame = some L) {tb : Value}
    (D : Led B h ((e, ExcP cls a0 tb) :: live) fz) (hq : ∀ h', Fly B h' live fz e cls a0 (rawInt L) → Q () ⟨h', g, d, t, os⟩) :
    wpAny M A (do let a ← frameOf env; let pl ← entryPlaceOf L hn; let b ← EntryCells.newEntry head a .none (rawInt L) .none pl; setField (.ref e) 1 b) Q E ⟨h, g, d, t, os⟩ := by
  have hF' : FrOk ((e, ExcP cls a0 tb) :: live) (env :: outer) := hF.mono fun _ hp => .tail _ hp
  refine wpAny_bind (wpAny_frameOf_fun (s := ⟨h, g, d, t, os⟩) hfr (hF'.fun D) hf fun h₁ hs₁ => ?_)
  have D₁ := D.slots hs₁ hF'.slotsMem
  refine wpAny_bind (wpAny_entryPlaceOf fun pl hpl => ?_)
  unfold EntryCells.newEntry newFields
  refine wpAny_bind (wpAny_newObj_type ?_ (hpl.sizeOk5 _ _ _ _ _))
  have D₂ := D₁.alloc2 (P := TbP (rawInt L)) (o := { cls := .type "traceback", dict := none, data := .fields ([head, .ref L, .none, rawInt L, .none] ++ (if pl.isEmpty then List.replicate 6 Value.none else pl)).toArray }) ⟨_, rfl, by first | (simp; done) | (rcases hpl with rfl | ⟨_, _, _, _, _, _, _, rfl⟩ <;> simp)⟩ rfl
  exact setField_led D₂ .here (fun o hp => exc_set hp) fun h' D' => hq h' ⟨_, D'⟩

theorem note_raw {Q : Unit → Shared → Prop} (hfr : A.frames = some (env :: outer)) (hF : FrOk live (env :: outer)) (hf : env.frame = some L) (D : Raw B h live fz e cls a0)
    (hq : ∀ h', Fly B h' live fz e cls a0 (rawInt L) → Q () ⟨h', g, d, t, os⟩) : wpAny M A (noteFrame (.ref e) env) Q E ⟨h, g, d, t, os⟩ := by
  unfold noteFrame
  simp only [hf]
  refine wpAny_bind (exc_field D (.head _) ?_)
  rw [if_neg (by decide)]
  exact new_entry (x := (0, AnyP)) hfr hF hf D hq
theorem note_fly {Q : Unit → Shared → Prop} (hfr : A.frames = some (env :: outer)) (hF : FrOk live (env :: outer)) (hf : env.frame = some L) (D : Fly B h live fz e cls a0 .none)
    (hq : ∀ h', Fly B h' live fz e cls a0 (rawInt L) → Q () ⟨h', g, d, t, os⟩) : wpAny M A (noteFrame (.ref e) env) Q E ⟨h, g, d, t, os⟩ := by
  obtain ⟨T, D⟩ := D
  unfold noteFrame
  simp only [hf]
  refine wpAny_bind (exc_field D (.head _) ?_)
  rw [if_pos (show (Value.ref T != Value.none) = true from by simp)]
  refine wpAny_bind (tb_field D (.tail _ (.head _)) ?_)
  rw [if_neg (show ¬ ((Value.none == rawInt L) = true) from by simp [rawInt])]
  refine wpAny_bind (setField_led D (.there .here) (fun o hp => tb_set hp) fun h' D' => ?_)
  exact new_entry (x := (0, AnyP)) hfr hF hf (Led.drop2 D') hq
theorem note_again {Q : Unit → Shared → Prop} (hf : env.frame = some L) (D : Fly B h live fz e cls a0 (rawInt L))
    (hq : Q () ⟨h, g, d, t, os⟩) : wpAny M A (noteFrame (.ref e) env) Q E ⟨h, g, d, t, os⟩ := by
  obtain ⟨T, D⟩ := D
  unfold noteFrame
  simp only [hf]
  refine wpAny_bind (exc_field D (.head _) ?_)
  rw [if_pos (show (Value.ref T != Value.none) = true from by simp)]
  refine wpAny_bind (tb_field D (.tail _ (.head _)) ?_)
  rw [if_pos (by simp)]
  exact wpAny_pure hq
theorem set_flight {Q : Unit → Shared → Prop} {fr : Option Addr} (D : Fly B h live fz e cls a0 fl)
    (hq : ∀ h', Fly B h' live fz e cls a0 (fr.elim .none fun f => rawInt f) → Q () ⟨h', g, d, t, os⟩) : wpAny M A (setFlight (.ref e) fr) Q E ⟨h, g, d, t, os⟩ := by
  obtain ⟨T, D⟩ := D
  unfold setFlight
  refine wpAny_bind (exc_field D (.head _) ?_)
  rw [if_pos (show (Value.ref T != Value.none) = true from by simp)]
  exact setField_led D (.there .here) (fun o hp => tb_set hp) fun h' D' => hq h' ⟨T, D'⟩
theorem set_flight_raw {Q : Unit → Shared → Prop} {fr : Option Addr} (D : Raw B h live fz e cls a0) (hq : Q () ⟨h, g, d, t, os⟩) : wpAny M A (setFlight (.ref e) fr) Q E ⟨h, g, d, t, os⟩ := by
  unfold setFlight
  refine wpAny_bind (exc_field D (.head _) ?_)
  rw [if_neg (by decide)]
  exact wpAny_pure hq

theorem leave_raw {Q : Unit → Shared → Prop} (hfr : A.frames = some (env :: outer)) (hF : FrOk live (env :: outer)) (hf : env.frame = some L) (D : Raw B h live fz e cls a0)
    (hq : ∀ h', Fly B h' live fz e cls a0 .none → Q () ⟨h', g, d, t, os⟩) : wpAny M A (leaving env (.ref e)) Q E ⟨h, g, d, t, os⟩ := by
  unfold leaving
  exact wpAny_bind (note_raw hfr hF hf D fun h' D' => set_flight D' fun h'' D'' => hq h'' D'')
theorem leave_fly {Q : Unit → Shared → Prop} (hfr : A.frames = some (env :: outer)) (hF : FrOk live (env :: outer)) (hf : env.frame = some L) (D : Fly B h live fz e cls a0 .none)
    (hq : ∀ h', Fly B h' live fz e cls a0 .none → Q () ⟨h', g, d, t, os⟩) : wpAny M A (leaving env (.ref e)) Q E ⟨h, g, d, t, os⟩ := by
  unfold leaving
  exact wpAny_bind (note_fly hfr hF hf D fun h' D' => set_flight D' fun h'' D'' => hq h'' D'')
theorem leave_own {Q : Unit → Shared → Prop} (hf : env.frame = some L) (D : Fly B h live fz e cls a0 (rawInt L))
    (hq : ∀ h', Fly B h' live fz e cls a0 .none → Q () ⟨h', g, d, t, os⟩) : wpAny M A (leaving env (.ref e)) Q E ⟨h, g, d, t, os⟩ := by
  unfold leaving
  exact wpAny_bind (note_again hf D (set_flight D fun h'' D'' => hq h'' D''))

/-- through a loop of the frame's own -/
theorem noted_came {E' : Value → Shared → Prop} (hf : env.frame = some L) (n : wpAny M A (noteFrame (.ref e) env) (fun _ s' => ∃ h', s' = ⟨h', g, d, t, os⟩ ∧ Fly B h' live fz e cls a0 (rawInt L)) (fun _ _ => False) ⟨h, g, d, t, os⟩)
    (hq : ∀ h', Fly B h' live fz e cls a0 (rawInt L) → E' (.ref e) ⟨h', g, d, t, os⟩) : notedBy M A env (fun x s' => cameBackBy M A env E' x s') (.ref e) ⟨h, g, d, t, os⟩ := by
  unfold notedBy
  refine wpAny_mono n (fun _ s' hs => ?_) fun _ _ x => x.elim
  obtain ⟨h', rfl, T, D'⟩ := hs
  unfold cameBackBy
  refine wpAny_bind (exc_field D' (.head _) ?_)
  rw [if_neg (by simp)]
  rw [hf]
  exact set_flight ⟨T, D'⟩ fun h'' D'' => hq h'' D''
end
end

section
/-! ## list iterators, new lists, append, raise -/
section
variable {prog : Program} {w : World} {A : Around} {E : Value → Shared → Prop} {B h : Heap} {live live' fz rest : List Ent} {g : Array GenState} {d : Drawn} {t : Nat} {os : OsState} {f0 : Ent} {it l : Addr} {xs : List Value} {n i : Nat}

theorem TapeP.typeIs {o : Obj} (ho : h.get? it = some o) (hp : TapeP l n i o) : (⟨h, g, d, t, os⟩ : Shared).TypeIs (.ref it) "list_iterator" := by
  rcases hp with ⟨hp, _⟩ | ⟨hp, _⟩
  · exact ⟨o, ho, hp.1⟩
  · exact ⟨o, ho, hp.1⟩

theorem tape_call_item {Q : Value → Shared → Prop} {x : Value} (hn : xs.length = n) (D : Led B h live fz) (u : Put it (TapeP l n i) (TapeP l n (i + 1)) live live') (hl : h.IsList l xs.toArray) (hx : xs[i]? = some x)
    (hq : ∀ h', Led B h' live' fz → Q x ⟨h', g, d, t, os⟩) : wpAny (model prog w) A (call (.builtin "list_iterator.__next__") [.ref it]) Q E ⟨h, g, d, t, os⟩ := by
  subst hn
  have hlt : i < xs.length := (List.getElem?_eq_some_iff.mp hx).1
  obtain ⟨o, ho, hp⟩ := D.rd u.mem
  have hT := TapeP.typeIs (g := g) (d := d) (t := t) (os := os) ho hp
  obtain ⟨ol, hol, _, nl, hdl⟩ := hl
  have hd : o.data = .fields #[.ref l, .int i 0] := by
    rcases hp with ⟨hp, _⟩ | ⟨_, e⟩
    · exact hp.2
    · omega
  have hc : o.cls = .type "list_iterator" := by
    rcases hp with ⟨hp, _⟩ | ⟨_, e⟩
    · exact hp.1
    · omega
  refine wpAny_call_entry slot_listiter_next hT entry_listiter_next ?_ (args_listiter_next _)
  show wpAny _ _ (field (.ref it) 0 >>= _) _ _ _
  refine wpAny_bind (wpAny_field (s := ⟨h, g, d, t, os⟩) ho hd (x := .ref l) rfl ?_)
  show wpAny _ _ (if (Value.ref l == Value.none) = true then _ else _) _ _ _
  rw [if_neg (show ¬ ((Value.ref l == Value.none) = true) from Bool.false_ne_true)]
  show wpAny _ _ (field (.ref it) 1 >>= _) _ _ _
  refine wpAny_bind (wpAny_field (s := ⟨h, g, d, t, os⟩) ho hd (x := .int i 0) rfl ?_)
  show wpAny _ _ (seqItems? (.ref l) >>= _) _ _ _
  refine wpAny_bind (wpAny_seqItems (s := ⟨h, g, d, t, os⟩) hol hdl ?_)
  have hx' : xs.toArray[i]? = some x := by simpa using hx
  simp only [Int.toNat_natCast, hx']
  refine wpAny_bind (setField_led D u (fun o' hp' => ?_) fun h' D' => wpAny_pure ⟨x, rfl, hq h' D'⟩)
  rcases hp' with ⟨⟨c', d'⟩, _⟩ | ⟨_, e⟩
  · refine ⟨_, d', by simp, .inl ⟨⟨(Obj.cls_mapFields ..).trans c', ?_⟩, by omega⟩⟩
    rw [Obj.data_mapFields d']; simp [rawInt]
  · omega

theorem stop_raise {α : Type} {Q : α → Shared → Prop} {A' : Around} (hh : A'.handled = none) (D : Led B h live fz)
    (hE : ∀ e a0 h', Raw B h' live fz e "StopIteration" a0 → E (.ref e) ⟨h', g, d, t, os⟩) : wpAny (model prog w) A' (Builtin.SmallTypes.stopIteration : Sem α) Q E ⟨h, g, d, t, os⟩ := by
  show wpAny _ _ (newExc (.type "StopIteration") [] >>= _) _ _ _
  refine wpAny_bind ?_
  simp only [newExc, newTuple]
  refine wpAny_bind (wpAny_newObj_type ?_ (by size_fits))
  refine wpAny_bind (m := firstArgMember _ _) (wpAny_of_eq (a := Value.none) (by first | rfl | (simp only [firstArgMember]; rfl)) ?_)
  refine wpAny_newObj_type ?_ (by size_fits)
  simp only [raiseNew]
  refine wpAny_bind (wpAny_handled ?_)
  rw [hh]
  refine wpAny_bind (wpAny_pure (wpAny_throw ?_))
  exact hE _ _ _ (Led.alloc (P := ExcP "StopIteration" _ .none) (D.skip rfl) ⟨rfl, _, rfl, rfl, rfl⟩ rfl)

theorem tape_call_end {Q : Value → Shared → Prop} (hn : xs.length = n) (hh : A.handled = none) (D : Led B h live fz) (u : Put it (TapeP l n i) (TapeP l n n) live live') (hl : h.IsList l xs.toArray) (hx : xs.length ≤ i)
    (hE : ∀ e a0 h', Raw B h' live' fz e "StopIteration" a0 → E (.ref e) ⟨h', g, d, t, os⟩) : wpAny (model prog w) A (call (.builtin "list_iterator.__next__") [.ref it]) Q E ⟨h, g, d, t, os⟩ := by
  subst hn
  obtain ⟨o, ho, hp⟩ := D.rd u.mem
  have hT := TapeP.typeIs (g := g) (d := d) (t := t) (os := os) ho hp
  refine wpAny_call_entry slot_listiter_next hT entry_listiter_next ?_ (args_listiter_next _)
  show wpAny _ _ (field (.ref it) 0 >>= _) _ _ _
  rcases id hp with ⟨hp', hi⟩ | ⟨hp', hi⟩
  · obtain ⟨ol, hol, _, nl, hdl⟩ := hl
    refine wpAny_bind (wpAny_field (s := ⟨h, g, d, t, os⟩) ho hp'.2 (x := .ref l) rfl ?_)
    show wpAny _ _ (if (Value.ref l == Value.none) = true then _ else _) _ _ _
    rw [if_neg (show ¬ ((Value.ref l == Value.none) = true) from Bool.false_ne_true)]
    show wpAny _ _ (field (.ref it) 1 >>= _) _ _ _
    refine wpAny_bind (wpAny_field (s := ⟨h, g, d, t, os⟩) ho hp'.2 (x := .int i 0) rfl ?_)
    show wpAny _ _ (seqItems? (.ref l) >>= _) _ _ _
    refine wpAny_bind (wpAny_seqItems (s := ⟨h, g, d, t, os⟩) hol hdl ?_)
    have hx' : xs.toArray[i]? = none := by simpa using hx
    simp only [Int.toNat_natCast, hx']
    refine wpAny_bind (wpAny_rule (wpAny_bind (setField_led D u (fun o' hq' => ?_) fun h' D' => ?_)))
    · rcases hq' with ⟨⟨c', d'⟩, _⟩ | ⟨⟨c', j, d'⟩, _⟩
      · exact ⟨_, d', by simp, .inr ⟨⟨(Obj.cls_mapFields ..).trans c', _, by rw [Obj.data_mapFields d']; simp; rfl⟩, rfl⟩⟩
      · exact ⟨_, d', by simp, .inr ⟨⟨(Obj.cls_mapFields ..).trans c', _, by rw [Obj.data_mapFields d']; simp; rfl⟩, rfl⟩⟩
    · exact stop_raise hh D' hE
  · obtain ⟨hc, j, hd⟩ := hp'
    subst hi
    refine wpAny_bind (wpAny_field (s := ⟨h, g, d, t, os⟩) ho hd (x := .none) rfl ?_)
    show wpAny _ _ (if (Value.none == Value.none) = true then _ else _) _ _ _
    rw [if_pos (show ((Value.none == Value.none) = true) from rfl)]
    refine wpAny_bind (wpAny_rule ?_)
    refine wpAny_bind ?_
    exact stop_raise hh (D.same u ⟨rfl, fun _ _ => rfl⟩ ho hp) hE

theorem next_tape {Q : Option Value → Shared → Prop} {x : Value} (hn : xs.length = n) (D : Led B h live fz) (u : Put it (TapeP l n i) (TapeP l n (i + 1)) live live') (hl : h.IsList l xs.toArray) (hx : xs[i]? = some x)
    (hq : ∀ h', Led B h' live' fz → Q (some x) ⟨h', g, d, t, os⟩) : wpAny (model prog w) A (pyNext (.ref it)) Q E ⟨h, g, d, t, os⟩ := by
  subst hn
  obtain ⟨o, ho, hp⟩ := D.rd u.mem
  have hT := TapeP.typeIs (g := g) (d := d) (t := t) (os := os) ho hp
  unfold pyNext
  refine wpAny_bind (wpAny_attempt (wpAny_callSpecial?_slot (name := Str.ofString "__next__") hT slot_listiter_next (tape_call_item rfl D u hl hx fun h' D' => ?_)))
  exact wpAny_pure (hq h' D')
theorem next_tape_end {Q : Option Value → Shared → Prop} (hn : xs.length = n) (hh : A.handled = none) (D : Led B h live fz) (u : Put it (TapeP l n i) (TapeP l n n) live live') (hl : h.IsList l xs.toArray) (hx : xs.length ≤ i)
    (hq : ∀ h', Led B h' live' fz → Q none ⟨h', g, d, t, os⟩) : wpAny (model prog w) A (pyNext (.ref it)) Q E ⟨h, g, d, t, os⟩ := by
  subst hn
  obtain ⟨o, ho, hp⟩ := D.rd u.mem
  have hT := TapeP.typeIs (g := g) (d := d) (t := t) (os := os) ho hp
  unfold pyNext
  refine wpAny_bind (wpAny_attempt (wpAny_callSpecial?_slot (name := Str.ofString "__next__") hT slot_listiter_next (tape_call_end rfl hh D u hl hx fun e a0 h' D' => ?_)))
  obtain ⟨oe, hoe, hc, _⟩ := D'.rd (.head _)
  refine wpAny_bind (wpAny_isInstance (T := "StopIteration") (b := true) ⟨oe, hoe, hc⟩ isSubtype_stop ?_)
  exact wpAny_pure (hq _ D'.drop)

theorem call_next_item {Q : Value → Shared → Prop} {x : Value} (hn : xs.length = n) (D : Led B h live fz) (u : Put it (TapeP l n i) (TapeP l n (i + 1)) live live') (hl : h.IsList l xs.toArray) (hx : xs[i]? = some x)
    (hq : ∀ h', Led B h' live' fz → Q x ⟨h', g, d, t, os⟩) : wpAny (model prog w) A (call (.builtin "next") [.ref it]) Q E ⟨h, g, d, t, os⟩ := by
  subst hn
  obtain ⟨o, ho, hp⟩ := D.rd u.mem
  have hT := TapeP.typeIs (g := g) (d := d) (t := t) (os := os) ho hp
  refine PySem.Calls.call_function_entry (by decide +kernel) (by decide +kernel) kdk_entry_next (kdk_args_next _) ?_
  unfold Builtin.«next»
  refine wpAny_bind (m := someArgs "next" 1 2 _) (wpAny_of_eq (a := [Value.ref it]) (by first | rfl | kernel_rfl!) ?_)
  dsimp only
  refine wpAny_bind (wpAny_specialOf (name := Str.ofString "__next__") hT slot_listiter_next.lookup ?_)
  refine wpAny_ite_split (fun hab => absurd hab (by decide)) (fun _ => ?_)
  refine wpAny_bind (wpAny_callSpecial?_slot (name := Str.ofString "__next__") hT slot_listiter_next (tape_call_item rfl D u hl hx fun h' D' => ?_))
  exact wpAny_pure ⟨_, rfl, hq h' D'⟩
theorem call_next_end {Q : Value → Shared → Prop} (hn : xs.length = n) (hh : A.handled = none) (D : Led B h live fz) (u : Put it (TapeP l n i) (TapeP l n n) live live') (hl : h.IsList l xs.toArray) (hx : xs.length ≤ i)
    (hE : ∀ e a0 h', Raw B h' live' fz e "StopIteration" a0 → E (.ref e) ⟨h', g, d, t, os⟩) : wpAny (model prog w) A (call (.builtin "next") [.ref it]) Q E ⟨h, g, d, t, os⟩ := by
  subst hn
  obtain ⟨o, ho, hp⟩ := D.rd u.mem
  have hT := TapeP.typeIs (g := g) (d := d) (t := t) (os := os) ho hp
  refine PySem.Calls.call_function_entry (by decide +kernel) (by decide +kernel) kdk_entry_next (kdk_args_next _) ?_
  unfold Builtin.«next»
  refine wpAny_bind (m := someArgs "next" 1 2 _) (wpAny_of_eq (a := [Value.ref it]) (by first | rfl | kernel_rfl!) ?_)
  dsimp only
  refine wpAny_bind (wpAny_specialOf (name := Str.ofString "__next__") hT slot_listiter_next.lookup ?_)
  refine wpAny_ite_split (fun hab => absurd hab (by decide)) (fun _ => ?_)
  refine wpAny_bind (wpAny_callSpecial?_slot (name := Str.ofString "__next__") hT slot_listiter_next (tape_call_end rfl hh D u hl hx hE))

theorem mk_list {Q : Value → Shared → Prop} {vs : List Value} (D : Led B h (f0 :: rest) fz) (hs : vs.length ≤ sizeLine) (hq : ∀ r h', Led B h' (f0 :: (r, LListP vs) :: rest) fz → Q (.ref r) ⟨h', g, d, t, os⟩) :
    wpAny (model prog w) A (newList vs) Q E ⟨h, g, d, t, os⟩ :=
  wpAny_newObj_type (hq _ _ (D.alloc2 (P := LListP vs) ⟨_, rfl⟩ rfl)) (by show vs.toArray.size ≤ sizeLine; rw [List.size_toArray]; exact hs)
theorem mk_tuple {Q : Value → Shared → Prop} {vs : List Value} (D : Led B h (f0 :: rest) fz) (hs : vs.length ≤ sizeLine) (hq : ∀ r h', Led B h' (f0 :: (r, TupP vs) :: rest) fz → Q (.ref r) ⟨h', g, d, t, os⟩) :
    wpAny (model prog w) A (newTuple vs) Q E ⟨h, g, d, t, os⟩ :=
  wpAny_newObj_type (hq _ _ (D.alloc2 (P := TupP vs) rfl rfl)) (by show vs.toArray.size ≤ sizeLine; rw [List.size_toArray]; exact hs)

theorem Led.plainL (D : Led B h live fz) (hm : (l, LListP xs) ∈ live) : PlainL h l xs.toArray := by
  obtain ⟨o, ho, m, rfl⟩ := D.rd hm
  exact ⟨_, m, ho, rfl, rfl, rfl⟩
theorem append_ {Q : Value → Shared → Prop} {x : Value} (D : Led B h live fz) (u : Put l (LListP xs) (LListP (xs ++ [x])) live live') (hs : xs.length ≤ sizeLine)
    (hq : ∀ h', Led B h' live' fz → Q .none ⟨h', g, d, t, os⟩) : wpAny (model prog w) A (call (.builtin "list.append") [.ref l, x]) Q E ⟨h, g, d, t, os⟩ := by
  have hl := D.list u.mem
  obtain ⟨o, ho, m, rfl⟩ := D.rd u.mem
  refine wpAny_call_entry slot_list_append (s := ⟨h, g, d, t, os⟩) (Heap.IsList.typeIs hl) entry_list_append ?_ (args_list_append _ _)
  show wpAny _ _ (updateSeq l (·.push x) >>= fun _ => ret .none) _ _ _
  refine wpAny_bind ?_
  refine wpAny_updateSeq (s := ⟨h, g, d, t, os⟩) ho rfl (wpAny_pure ⟨.none, rfl, hq _ ?_⟩) 
  refine D.upd u ho ?_ rfl
  obtain ⟨n', e⟩ : ∃ n', Obj.mapSeq (·.push x) (lstO xs m) = { cls := .type "list", data := .seq (xs.toArray.push x) n' } := ⟨_, rfl⟩
  refine ⟨n', e.trans ?_⟩
  simp

theorem raise_value {Q : Flow → Shared → Prop} {env : Env} {np cpos pos : Pos} {args : List Expr} (hh : A.handled = none) (hplain : (backTo cpos (starEach args env)).any (·.1) = false)
    (h₁ : wpAny (model prog w) A (eval (.Name (Str.ofString "ValueError") np) env) (fun f s₁ => f = .type "ValueError" ∧ wpAny (model prog w) A (evalArgs (.type "ValueError") true (backTo cpos (starEach args env)) [])
      (fun a s₂ => a.kw = [] ∧ a.pos.length ≤ sizeLine ∧ ∃ h t live fz, s₂ = ⟨h, g, d, t, os⟩ ∧ Led B h live fz ∧ ∀ e a0 h', Raw B h' live ((a0, TupP a.pos) :: fz) e "ValueError" (.ref a0) → E (.ref e) ⟨h', g, d, t, os⟩) E s₁) E ⟨h, g, d, t, os⟩) :
    wpAny (model prog w) A (exec (.Raise (some (.Call (.Name (Str.ofString "ValueError") np) args [] cpos)) none pos) env) Q E ⟨h, g, d, t, os⟩ := by
  refine wpAny_Raise_call F.excCall_ValueError F.excRaise_ValueError hh hplain (wpAny_mono h₁ (fun f s₁ h₁ => ⟨h₁.1, wpAny_mono h₁.2 (fun a s₂ h₂ => ⟨h₂.1, h₂.2.1, fun h' e hm => ?_⟩) fun _ _ x => x⟩) fun _ _ x => x)
  obtain ⟨h, t, live, fz, rfl, D, hE⟩ := h₂.2.2
  obtain ⟨tt, he, hnt, htt⟩ := hm.there
  have hne : e ≠ tt := fun q => by rw [← q, he] at htt; exact absurd (congrArg (fun o : Option Obj => o.map (·.data)) htt) (by simp)
  have bn : ∀ a, h.get? a = none → B.get? a = none := fun a ha => by
    cases q : B.get? a with
    | none => rfl
    | some o => have := D.keep _ _ q; rw [ha] at this; cases this
  have ln : ∀ a, h.get? a = none → a ∉ live.map (·.1) := fun a ha hm' => by
    obtain ⟨p, hp, e⟩ := List.mem_map.mp hm'
    obtain ⟨⟨o, ho, _⟩, _⟩ := D.lv p hp
    rw [e, ha] at ho; cases ho
  have fn : ∀ a, h.get? a = none → ∀ p, p ∈ fz → p.1 ≠ a := fun a ha p hp e => by
    obtain ⟨⟨o, ho, _⟩, _⟩ := D.fv p hp
    rw [e, ha] at ho; cases ho
  refine hE e tt h' ⟨fun b o q => hm.keeps _ _ (D.keep b o q), fun p hp => ?_, fun p hp => ?_, ?_, fun p hp hq => ?_⟩
  · rcases List.mem_cons.mp hp with rfl | hp
    · exact ⟨⟨_, he, rfl, _, rfl, rfl, rfl⟩, bn _ hm.new⟩
    · obtain ⟨⟨o, ho, hq⟩, hb⟩ := D.lv p hp
      exact ⟨⟨o, hm.keeps _ _ ho, hq⟩, hb⟩
  · rcases List.mem_cons.mp hp with rfl | hp
    · exact ⟨⟨_, htt, rfl⟩, bn _ hnt⟩
    · obtain ⟨⟨o, ho, hq⟩, hb⟩ := D.fv p hp
      exact ⟨⟨o, hm.keeps _ _ ho, hq⟩, hb⟩
  · rw [List.map_cons, List.nodup_cons]
    exact ⟨ln _ hm.new, D.nd⟩
  · rw [List.map_cons] at hq
    rcases List.mem_cons.mp hp with rfl | hp
    · rcases List.mem_cons.mp hq with q | q
      · exact hne q.symm
      · exact ln _ hnt q
    · rcases List.mem_cons.mp hq with q | q
      · exact fn _ hm.new p hp q
      · exact D.sp p hp q
end
end

section
/-! ## _law_key -/
def keyStmt : Option Stmt := (bodyOf (stmtAt 7))[1]?
def keyQual : Str := Str.ofString "_law_told.<locals>._law_key"
abbrev keyFd (c cd : Addr) (doc pm ctv : Value) : FuncData := fnX (Str.ofString "_law_key") keyQual (paramsOf keyStmt) (bodyOf keyStmt) (scopeOf keyStmt) [(Str.ofString "tape", c)] .none .none doc pm none (.ref cd) ctv
def KeyP (c cd : Addr) (o : Obj) : Prop := ∃ doc pm ctv, o.data = .func (keyFd c cd doc pm ctv)
def CodeP (q : Str) (o : Obj) : Prop := ∃ vs t, o.data = .fields vs ∧ vs[1]? = some (.str q t)
abbrev keyEnv (L f c cd : Addr) : Env :=
  { scope := scopeOf keyStmt, locals := L, globals := mainGlobals, cells := [(Str.ofString "tape", c)], qual := keyQual ++ ".<locals>.", func := some f, code := .ref cd, frame := some L, builtins := builtinsNs }

structure Tape (fz : List Ent) (nl c kf tp : Addr) (ns : List Int) : Prop where
  nums : ∃ nvs, (nl, LListP nvs) ∈ fz ∧ IntsAre nvs ns
  cell : (c, CellP (.ref tp)) ∈ fz
  key : ∃ cd, (kf, KeyP c cd) ∈ fz ∧ (cd, CodeP keyQual) ∈ fz
theorem Tape.mono {fz fz' : List Ent} {nl c kf tp : Addr} {ns : List Int} (T : Tape fz nl c kf tp ns) (hs : ∀ p, p ∈ fz → p ∈ fz') : Tape fz' nl c kf tp ns :=
  ⟨let ⟨v, m, i⟩ := T.nums; ⟨v, hs _ m, i⟩, hs _ T.cell, let ⟨cd, a, b⟩ := T.key; ⟨cd, hs _ a, hs _ b⟩⟩

def rOf (x : Int) : Nat := (x.fmod 3).toNat
def spoilt (x : Int) : Bool := (x.fdiv 3).fmod 5 == 4
def restOf (ns : List Int) (i : Nat) (x : Int) : List Int := (ns.drop i).take (rOf x)

theorem IntsAre.len {vs : List Value} {ns : List Int} (x : IntsAre vs ns) : vs.length = ns.length := by
  induction x with
  | nil => rfl
  | cons _ _ _ ih => simp only [List.length_cons, ih]
theorem IntsAre.snoc {vs : List Value} {ns : List Int} {n : Int} {t : Tok} (x : IntsAre vs ns) : IntsAre (vs ++ [.int n t]) (ns ++ [n]) := by
  induction x with
  | nil => exact .cons _ _ .nil
  | cons _ _ _ ih => exact .cons _ _ ih
theorem rOf_le (x : Int) : rOf x ≤ 2 := by
  unfold rOf
  have h1 := Int.fmod_lt_of_pos x (show (0 : Int) < 3 by decide)
  omega
theorem rOf_int (x : Int) : ((rOf x : Nat) : Int) = x.fmod 3 := by
  unfold rOf
  have h1 := Int.fmod_nonneg_of_pos x (show (0 : Int) < 3 by decide)
  omega
theorem take_snoc {ns : List Int} {i j : Nat} (h : i + j < ns.length) : (ns.drop i).take j ++ [ns[i + j]] = (ns.drop i).take (j + 1) := by
  rw [List.take_add_one, List.getElem?_drop, List.getElem?_eq_getElem h]
  rfl

theorem evalArgs_pl {M : Model} {A : Around} {E : Value → Shared → Prop} {s : Shared} {f : Value} {pos : Pos} {env : Env} {e : Expr} {rest : List Expr} {Q : Args → Shared → Prop}
    (h : wpAny M A (spliced (backTo pos (starEach (e :: rest) env))) (fun vs s' => Q ⟨vs, []⟩ s') E s) (he : starEach (e :: rest) env = (false, eval e env) :: starEach rest env := by rfl) :
    wpAny M A (evalArgs f true (backTo pos (starEach (e :: rest) env)) []) Q E s := by
  rw [he] at h ⊢
  exact PySem.Calls.evalArgs_plain h
theorem Fly.sub {B h : Heap} {live live₂ fz fz₂ : List Ent} {e : Addr} {cls : String} {a0 fl : Value} (D : Fly B h live fz e cls a0 fl) (hs : List.Sublist live₂ live) (hz : ∀ p, p ∈ fz₂ → p ∈ fz) : Fly B h live₂ fz₂ e cls a0 fl :=
  let ⟨T, D⟩ := D; ⟨T, D.sub ((hs.cons_cons _).cons_cons _) hz⟩
theorem sub_tl {l l' : List Ent} {a b c : Ent} (h : List.Sublist l' l) : List.Sublist l' (a :: b :: c :: l) := ((h.cons _).cons _).cons _

section
variable {prog : Program} {w : World} {A : Around} {Q E : Value → Shared → Prop} {B h : Heap} {fz : List Ent} {g : Array GenState} {d : Drawn} {t : Nat} {os : OsState} {mg mb : Str → Option Value} {fa : Nat → Addr}

theorem enterK {live : List Ent} {f c cd : Addr} {x : Value} (lim : B.NoLimit) (hf : (f, KeyP c cd) ∈ fz) (hc : (cd, CodeP keyQual) ∈ fz) (D : Led B h live fz) (hroom : A.depth < recursionLimit)
    (k : ∀ L h' t', Led B h' ((L, FrameP [(Str.ofString "head", x)]) :: live) fz →
      wpAny (model prog w) (A.deeper (keyEnv L f c cd)) (execs (bodyOf keyStmt) (keyEnv L f c cd))
        (fun fl s' => Q (match fl with | .ret v => v | _ => .none) s')
        (fun e s' => wpAny (model prog w) (A.deeper (keyEnv L f c cd)) (leaving (keyEnv L f c cd) e) (fun _ s'' => E e s'') (fun e' s'' => E e' s'') s')
        ⟨h', g, d, t', os⟩) :
    wpAny (model prog w) A (call (.ref f) [x]) Q E ⟨h, g, d, t, os⟩ := by
  refine cps fun PP kk => ?_
  obtain ⟨o, ho, doc, pm, ctv, hd⟩ := D.rf hf
  obtain ⟨oc, hoc, vs, tc, hdc, hvc⟩ := D.rf hc
  refine kk ?_
  clear kk PP
  refine wpAny_call (codeAny_call_def (s := ⟨h, g, d, t, os⟩) (fd := keyFd c cd doc pm ctv) (body := bodyOf keyStmt) (binds := [(Str.ofString "head", x)]) hroom ho hd (lim.keeps D.keep) ⟨cd, oc, vs, tc, rfl, hoc, hdc, hvc⟩ rfl (.of_eq (by rfl)) (show ∀ x ∈ (scopeOf keyStmt).names, x.2 ≠ .cell by decide +kernel) ?_ (fun h₀ hns hkp => ?_) (by rfl) (by rfl) (by rfl))
  · intro y hy
    cases List.mem_singleton.mp hy
    rfl
  · have D' : Led B h₀ ((h.objs.size, FrameP [(Str.ofString "head", x)]) :: live) fz := by
      obtain ⟨oL, hoL, hpL⟩ := FrameP.of_ns (kvs := [(Str.ofString "head", x)]) hns fun y v e => aget_reverse (by simp) e
      refine ⟨fun b o e => hkp b o (D.keep b o e), fun p hp => ?_, fun p hp => ?_, ?_, fun p hp hq => ?_⟩
      · rcases List.mem_cons.mp hp with rfl | hp
        · exact ⟨⟨oL, hoL, hpL⟩, D.base_none⟩
        · obtain ⟨⟨o', e, q⟩, z⟩ := D.lv p hp
          exact ⟨⟨o', hkp _ _ e, q⟩, z⟩
      · obtain ⟨⟨o', e, q⟩, z⟩ := D.fv p hp
        exact ⟨⟨o', hkp _ _ e, q⟩, z⟩
      · rw [List.map_cons, List.nodup_cons]
        refine ⟨fun hq => ?_, D.nd⟩
        refine cps fun PP kk => ?_
        obtain ⟨p, hp', e⟩ := List.mem_map.mp hq
        obtain ⟨⟨o', e', _⟩, _⟩ := D.lv p hp'
        refine kk ?_
        clear kk PP
        exact absurd (Heap.lt_size e') (by rw [e]; exact Nat.lt_irrefl _)
      · rw [List.map_cons] at hq
        rcases List.mem_cons.mp hq with e | hq
        · obtain ⟨⟨o', e', _⟩, _⟩ := D.fv p hp
          exact absurd (Heap.lt_size e') (by rw [e]; exact Nat.lt_irrefl _)
        · exact D.sp p hp hq
    exact k h.objs.size h₀ _ D'

theorem key_call {nl c kf tp : Addr} {ns : List Int} {K : (Obj → Prop) → List Ent} {i : Nat} {x : Int} {tx : Tok} {outer : List Env} (S : Stat B mg mb fa) (T : Tape fz nl c kf tp ns)
    (hK : ∀ P P', Put tp P P' (K P) (K P')) (D : Led B h (K (TapeP nl ns.length i)) fz) (hi : i ≤ ns.length)
    (hh : A.handled = none) (hd : A.depth + 2 < recursionLimit) (hfr : A.frames = some outer) (hF : ∀ P, FrOk (K P) outer)
    (hcut : ns.length < i + rOf x → ∀ e a0 h' t', Fly B h' (K (TapeP nl ns.length ns.length)) fz e "StopIteration" a0 .none → E (.ref e) ⟨h', g, d, t', os⟩)
    (hsp : i + rOf x ≤ ns.length → spoilt x = true → ∀ e a0 rv fz' h' t', (∀ p, p ∈ fz → p ∈ fz') → (a0, TupP [.int x tx, rv]) ∈ fz' → IsInts fz' rv (restOf ns i x) →
      Fly B h' (K (TapeP nl ns.length (i + rOf x))) fz' e "ValueError" (.ref a0) .none → E (.ref e) ⟨h', g, d, t', os⟩)
    (hok : i + rOf x ≤ ns.length → spoilt x = false → ∀ rv fz' h' t', (∀ p, p ∈ fz → p ∈ fz') → IsInts fz' rv (restOf ns i x) →
      Led B h' (K (TapeP nl ns.length (i + rOf x))) fz' → Q rv ⟨h', g, d, t', os⟩) :
    wpAny (model prog w) A (call (.ref kf) [.int x tx]) Q E ⟨h, g, d, t, os⟩ := by
  refine cps fun PP kk => ?_
  obtain ⟨cd, hkf, hcd⟩ := T.key
  obtain ⟨nvs, hnl, hnv⟩ := T.nums
  refine kk ?_
  clear kk PP
  have hlen := IntsAre.len hnv
  have hne : ∀ l : List Ent, tp ∉ ([] : List Addr) := fun _ h => nomatch h
  refine enterK S.lim hkf hcd D (by omega) (fun L h' t' D' => ?_)
  have hfr' : (A.deeper (keyEnv L kf c cd)).frames = some (keyEnv L kf c cd :: outer) := by show (A.frames.map _) = _; rw [hfr]; rfl
  have hF' : ∀ P kvs (l : List Ent), (∀ p, p ∈ K P → p ∈ l) → FrOk ((L, FrameP kvs) :: l) (keyEnv L kf c cd :: outer) := by
    intro P kvs l hl env he
    rcases List.mem_cons.mp he with rfl | he
    · exact ⟨show (scopeOf keyStmt).kind ≠ .module by decide +kernel, L, kvs, rfl, .head _⟩
    · obtain ⟨hk, L', kvs', hf, hm⟩ := hF P env he
      exact ⟨hk, L', kvs', hf, .tail _ (hl _ hm)⟩
  walk_at "as"
  refine List_ ?_
  refine args_nil ?_
  refine mk_list D' (by decide) (fun rl h1 D1 => ?_)
  walk_at "st"
  intro h2 t2 D2
  refine wpAny_execs_cons ?_
  refine wpAny_For ?_
  refine Call_ ?_
  walk_at "nb"
  refine Pv.callWith_type1 ?_
  refine args_cons ?_
  refine wpAny_BinOp ?_
  walk_at "nl"
  walk_at "ci"
  refine o_mod (by decide) ?_
  refine args_nil ?_
  refine mk_range1 D2 (fun r h3 t3 D3 => ?_)
  rw [← rOf_int] at D3
  have hr2 := rOf_le x
  refine it_range D3 (by omega) (by omega) (by omega) (by omega) (fun ri h4 D4 => ?_)
  rw [show (if (0 : Int) < (rOf x : Int) then (rOf x : Int) - 0 else 0) = ((rOf x : Nat) : Int) by split <;> omega] at D4
  refine codeAny_forLoop (fun k s => ∃ h' t' rvs kvs, ∃ j : Nat, s = ⟨h', g, d, t', os⟩ ∧ k + j = rOf x ∧ i + j ≤ ns.length ∧
    Led B h' ((L, FrameP ((Str.ofString "head", .int x tx) :: (Str.ofString "rest", .ref rl) :: kvs)) :: (ri, RIterP j k 1) :: (rl, LListP rvs) :: K (TapeP nl ns.length (i + j))) fz ∧
    IntsAre rvs ((ns.drop i).take j)) ?turn (rOf x) ⟨h4, _, [], [], 0, rfl, rfl, hi, D4, by rw [List.take_zero]; exact .nil⟩
  intro k s hEx
  refine cps fun PP kk => ?_
  obtain ⟨h5, t5, rvs, kvs, j, rfl, hkj, hij, D5, hrv⟩ := hEx
  refine kk ?_
  clear kk PP
  cases k with
  | zero =>
    have ej : j = rOf x := by omega
    subst ej
    refine next_rend D5 (by walk_at "mem") hh (by omega) (fun h6 D6 => ?_)
    refine wpAny_execs_nil ?_
    walk_at "if"
    refine wpAny_isTrue_Compare1 ?_
    refine wpAny_BinOp ?_
    refine wpAny_BinOp ?_
    walk_at "nl"
    walk_at "ci"
    refine floordiv_int (by decide) ?_
    walk_at "ci"
    refine o_mod (by decide) ?_
    walk_at "ci"
    refine eq_int ?_
    have hlen2 := IntsAre.len hrv
    by_cases hs : spoilt x = true
    · rw [show ((x.fdiv 3).fmod 5 == 4) = true from hs]
      refine wpAny_truthy_bool ?_
      refine wpAny_execs_cons ?_
      refine raise_value (B := B) hh (by rfl) ?_
      walk_at "nb"
      refine ⟨rfl, evalArgs_pl ?_⟩
      refine args_cons ?_
      walk_at "nl"
      refine args_cons ?_
      walk_at "nl"
      refine args_nil ?_
      have D7 := ((D6.drop2).perm (List.Perm.swap _ _ _)).freeze
      refine ⟨rfl, by show 2 ≤ sizeLine; decide, h6, _, _, _, rfl, D7, fun e a0 h7 D8 => ?_⟩
      refine leave_raw hfr' (hF' _ _ _ fun p hp => hp) rfl D8 fun h8 D9 => ?_
      exact hsp hij hs e a0 (.ref rl) _ h8 _ (fun p hp => .tail _ (.tail _ hp)) (.head _) ⟨rl, rvs, rfl, .tail _ (.head _), hrv⟩ (D9.sub (List.sublist_cons_self _ _) fun _ hp => hp)
    · have hs' : spoilt x = false := by simpa using hs
      rw [show ((x.fdiv 3).fmod 5 == 4) = false from hs']
      refine wpAny_truthy_bool ?_
      refine wpAny_execs_nil ?_
      refine wpAny_execs_cons ?_
      refine wpAny_Return_some ?_
      walk_at "nl"
      exact hok hij hs' (.ref rl) _ h6 _ (fun p hp => .tail _ hp) ⟨rl, rvs, rfl, .head _, hrv⟩ ((D6.drop2).perm (List.Perm.swap _ _ _)).freeze.drop
  | succ k =>
    refine next_riter D5 (by walk_at "put") (by omega) (fun h6 t6 D6 => ?_)
    refine wpAny_assign_Name ?_
    refine st_name D6 (kvs' := (Str.ofString "head", .int x tx) :: (Str.ofString "rest", .ref rl) :: aput (Str.ofString "turn") _ kvs) (by rfl) (ap_skip rfl (ap_skip rfl rfl)) (by rfl) (by rfl) ?_
    intro h7 t7 D7
    walk_at "ex"
    refine wpAny_Call_append (by rfl) (by rfl) (by rfl) (by rfl) ?_
    walk_at "nl"
    refine ⟨rl, _, rfl, D7.plainL (by walk_at "mem"), ?_⟩
    refine Call_ ?_
    walk_at "nb"
    refine PyProof.Rows.callWith_builtin1 ?_
    refine args_cons ?_
    refine wpAny_Name (ld_cell D7 (.inr T.cell) (by rfl) (by rfl) (.inr ⟨by rfl, by rfl⟩) ?_) (by decide)
    refine args_nil ?_
    by_cases hend : i + j < ns.length
    · obtain ⟨tv, hv⟩ := ints_get hnv (i + j) hend
      refine call_next_item hlen D7 (.there (.there (.there (hK _ _)))) (D7.flist hnl) hv (fun h8 D8 => ?_)
      refine append_ D8 (.there (.there .here)) (by have := IntsAre.len hrv; rw [List.length_take] at this; unfold sizeLine; omega) (fun h9 D9 => ?_)
      refine wpAny_execs_nil ?_
      rw [show ((k + 1 : Nat) : Int) - 1 = (k : Int) by omega, show (j : Int) + 1 = ((j + 1 : Nat) : Int) by omega, Nat.add_assoc] at D9
      exact ⟨k, Nat.lt_succ_self _, h9, _, rvs ++ [Value.int (ns[i + j]) tv], aput (Str.ofString "turn") (.int j t5) kvs, j + 1, rfl, by omega, by omega, D9, by rw [← take_snoc hend]; exact IntsAre.snoc hrv⟩
    · refine call_next_end hlen hh D7 (.there (.there (.there (hK _ _)))) (D7.flist hnl) (by omega) (fun e a0 h8 D8 => ?_)
      refine noted_came rfl (note_raw hfr' (hF' _ _ _ fun p hp => .tail _ (.tail _ hp)) rfl D8 fun h9 D9 => ⟨h9, rfl, D9⟩) (fun h9 D9 => leave_own rfl D9 fun h10 D10 => ?_)
      exact hcut (by omega) e a0 h10 _ (D10.sub (sub_tl (List.Sublist.refl _)) fun _ hp => hp)
end
end

section
/-! ## zip(range, tape) -/
def ZipP (TI TO : Addr) (f0 : Value) (o : Obj) : Prop := o = { cls := .type "zip", dict := none, data := .fields #[f0, .bool false, .bool false, .ref TI, .ref TO], slots := #[] }
section
variable {prog : Program} {w : World} {A : Around} {E : Value → Shared → Prop} {B h : Heap} {live live' fz rest rest' : List Ent} {g : Array GenState} {d : Drawn} {t : Nat} {os : OsState} {f0 : Ent} {it l : Addr} {xs : List Value} {n i : Nat}

theorem Led.grow (D : Led B h live fz) {h' : Heap} (hk : ∀ b o, h.get? b = some o → h'.get? b = some o) : Led B h' live fz :=
  ⟨fun b o e => hk _ _ (D.keep b o e), fun p hp => let ⟨⟨o, e, q⟩, k⟩ := D.lv p hp; ⟨⟨o, hk _ _ e, q⟩, k⟩, fun p hp => let ⟨⟨o, e, q⟩, k⟩ := D.fv p hp; ⟨⟨o, hk _ _ e, q⟩, k⟩, D.nd, D.sp⟩
theorem Led.extFresh (D : Led B h live fz) {h' : Heap} (hk : Heap.ExtBut h.objs.size h h') : Led B h' live fz :=
  D.grow fun b o e => hk b o (Nat.ne_of_lt (Heap.lt_size e)) e
theorem Led.allocF {P : Obj → Prop} (D : Led B h live fz) {o : Obj} (hp : P o) (hf : o.isFreed = false) : Led B (h.push o) live ((h.objs.size, P) :: fz) := (D.alloc hp hf).freeze

theorem riter_call_item {Q : Value → Shared → Prop} {ri : Addr} {x left step : Int} (D : Led B h live fz) (u : Put ri (RIterP x left step) (RIterP (x + step) (left - 1) step) live live') (hl : 0 < left)
    (hq : ∀ h' t', Led B h' live' fz → Q (.int x t) ⟨h', g, d, t', os⟩) : wpAny (model prog w) A (call (.builtin "range_iterator.__next__") [.ref ri]) Q E ⟨h, g, d, t, os⟩ := by
  obtain ⟨o, ho, rfl⟩ := D.rd u.mem
  have hT : (⟨h, g, d, t, os⟩ : Shared).TypeIs (.ref ri) "range_iterator" := ⟨_, ho, rfl⟩
  refine call_meets F.slot_range_iterator_next hT F.entry_range_iterator_next (F.args_range_iterator_next_1 _) (AutoRange.range_iterator___next___range_iterator_1 ri x left step (by omega)) ⟨ho, ?_⟩
  exact hq _ _ (D.same u ((Heap.SameBut.update ..).trans (Heap.SameBut.update ..)) (Heap.get?_update_self _ (Heap.get?_update_self _ ho rfl) rfl) rfl)
theorem riter_call_end {Q : Value → Shared → Prop} {ri : Addr} {x left step : Int} (hh : A.handled = none) (D : Led B h live fz) (hm : (ri, RIterP x left step) ∈ live) (hl : left ≤ 0)
    (hE : ∀ e a0 h', Raw B h' live fz e "StopIteration" a0 → E (.ref e) ⟨h', g, d, t, os⟩) : wpAny (model prog w) A (call (.builtin "range_iterator.__next__") [.ref ri]) Q E ⟨h, g, d, t, os⟩ := by
  obtain ⟨o, ho, rfl⟩ := D.rd hm
  have hT : (⟨h, g, d, t, os⟩ : Shared).TypeIs (.ref ri) "range_iterator" := ⟨_, ho, rfl⟩
  refine wpAny_call_entry F.slot_range_iterator_next hT F.entry_range_iterator_next ?_ (F.args_range_iterator_next_1 _)
  show wpAny _ _ (field (.ref ri) 0 >>= _) _ _ _
  refine wpAny_bind (wpAny_field (s := ⟨h, g, d, t, os⟩) ho rfl (x := rawInt x) rfl ?_)
  show wpAny _ _ (field (.ref ri) 1 >>= _) _ _ _
  refine wpAny_bind (wpAny_field (s := ⟨h, g, d, t, os⟩) ho rfl (x := rawInt left) rfl ?_)
  show wpAny _ _ (field (.ref ri) 2 >>= _) _ _ _
  refine wpAny_bind (wpAny_field (s := ⟨h, g, d, t, os⟩) ho rfl (x := rawInt step) rfl ?_)
  show wpAny _ _ (if left ≤ 0 then _ else _) _ _ _
  rw [if_pos hl]
  refine wpAny_bind (wpAny_rule ?_)
  refine wpAny_bind ?_
  exact stop_raise hh D hE

theorem nextOf_riter {Q : Value → Shared → Prop} {ri : Addr} {x left step : Int} (D : Led B h live fz) (hm : (ri, RIterP x left step) ∈ live)
    (hc : wpAny (model prog w) A (call (.builtin "range_iterator.__next__") [.ref ri]) Q E ⟨h, g, d, t, os⟩) : wpAny (model prog w) A (Builtin.SmallTypes.nextOf (.ref ri)) Q E ⟨h, g, d, t, os⟩ := by
  obtain ⟨o, ho, rfl⟩ := D.rd hm
  have hT : (⟨h, g, d, t, os⟩ : Shared).TypeIs (.ref ri) "range_iterator" := ⟨_, ho, rfl⟩
  unfold Builtin.SmallTypes.nextOf
  exact wpAny_bind (wpAny_callSpecial?_slot (name := Str.ofString "__next__") hT F.slot_range_iterator_next (wpAny_mono hc (fun v s' hq => wpAny_pure hq) fun _ _ e => e))
theorem nextOf_tape {Q : Value → Shared → Prop} (D : Led B h live fz) (hm : (it, TapeP l n i) ∈ live)
    (hc : wpAny (model prog w) A (call (.builtin "list_iterator.__next__") [.ref it]) Q E ⟨h, g, d, t, os⟩) : wpAny (model prog w) A (Builtin.SmallTypes.nextOf (.ref it)) Q E ⟨h, g, d, t, os⟩ := by
  obtain ⟨o, ho, hp⟩ := D.rd hm
  have hT := TapeP.typeIs (g := g) (d := d) (t := t) (os := os) ho hp
  unfold Builtin.SmallTypes.nextOf
  exact wpAny_bind (wpAny_callSpecial?_slot (name := Str.ofString "__next__") hT slot_listiter_next (wpAny_mono hc (fun v s' hq => wpAny_pure hq) fun _ _ e => e))
theorem iter_tape {Q : Value → Shared → Prop} (D : Led B h live fz) (hm : (it, TapeP l n i) ∈ live) (hq : Q (.ref it) ⟨h, g, d, t, os⟩) : wpAny (model prog w) A (pyIter (.ref it)) Q E ⟨h, g, d, t, os⟩ := by
  obtain ⟨o, ho, hp⟩ := D.rd hm
  have hT := TapeP.typeIs (g := g) (d := d) (t := t) (os := os) ho hp
  refine wpAny_pyIter_slot hT slot_listiter_iter (wpAny_call_entry slot_listiter_iter hT entry_listiter_iter ?_ (args_listiter_iter _))
  show wpAny _ _ (ret (.ref it)) _ _ _
  exact wpAny_pure ⟨_, rfl, "list_iterator", _, hT, slot_listiter_next.lookup, hq⟩

theorem zip_set {TI TO : Addr} {a b : Value} {o : Obj} (hp : ZipP TI TO a o) : ∃ vs, o.data = .fields vs ∧ 0 < vs.size ∧ ZipP TI TO b (Obj.mapFields (·.setIfInBounds 0 b) o) := by
  rw [hp]
  exact ⟨_, rfl, by simp, rfl⟩
theorem pair_set {Q : Unit → Shared → Prop} {TO : Addr} {k : Nat} {x a b a' b' : Value} (D : Led B h live fz) (u : Put TO (TupP [a, b]) (TupP [a', b']) live live') (hk : (#[a, b] : Array Value).setIfInBounds k x = #[a', b'])
    (hq : ∀ h', Led B h' live' fz → Q () ⟨h', g, d, t, os⟩) : wpAny (model prog w) A (updateSeq TO (·.setIfInBounds k x)) Q E ⟨h, g, d, t, os⟩ := by
  obtain ⟨o, ho, hp⟩ := D.rd u.mem
  rw [hp] at ho
  refine wpAny_updateSeq_pair (s := ⟨h, g, d, t, os⟩) ho (fun h' ho' hs => hq _ (D.same u hs ho' ?_))
  rw [hk]
  rfl
theorem Led.pair (D : Led B h live fz) {TO : Addr} {a b : Value} (hm : (TO, TupP [a, b]) ∈ live) : IsPair h TO a b := by
  obtain ⟨o, ho, rfl⟩ := D.rd hm
  exact ho
theorem zip_field0 {live : List Ent} {z TI TO : Addr} {a b : Value} {Q : Unit → Shared → Prop} (D : Led B h live fz) (u : Put z (ZipP TI TO a) (ZipP TI TO b) live live') (hq : ∀ h', Led B h' live' fz → Q () ⟨h', g, d, t, os⟩) :
    wpAny (model prog w) A (setField (.ref z) 0 b) Q E ⟨h, g, d, t, os⟩ := setField_led D u (fun o hp => zip_set hp) hq
theorem zip_field1 {live : List Ent} {z TI TO : Addr} {a : Value} {Q : Unit → Shared → Prop} (D : Led B h live fz) (u : Put z (ZipP TI TO a) (ZipP TI TO a) live live') (hq : ∀ h', Led B h' live' fz → Q () ⟨h', g, d, t, os⟩) :
    wpAny (model prog w) A (setField (.ref z) 1 (.bool false)) Q E ⟨h, g, d, t, os⟩ := setField_led D u (fun o hp => by rw [hp]; exact ⟨_, rfl, by simp, rfl⟩) hq

section
variable {z TI TO ri tp nl : Addr} {a b v : Value} {x left : Int}
theorem zip_item {Q : Value → Shared → Prop} (D : Led B h (f0 :: (z, ZipP TI TO .none) :: (TO, TupP [a, b]) :: (ri, RIterP x left 1) :: rest) fz) (hTI : (TI, TupP [.ref ri, .ref tp]) ∈ fz) (hleft : 0 < left)
    (hn : xs.length = n) (u : Put tp (TapeP nl n i) (TapeP nl n (i + 1)) rest rest') (hnl : (nl, LListP xs) ∈ fz) (hx : xs[i]? = some v)
    (hq : ∀ (T : Addr) h' t', Led B h' (f0 :: (z, ZipP TI TO (rawInt T)) :: (TO, TupP [.int x t, v]) :: (ri, RIterP (x + 1) (left - 1) 1) :: rest') ((T, TupP [.int x t, v]) :: fz) → Q (.ref T) ⟨h', g, d, t', os⟩) :
    wpAny (model prog w) A (Builtin.«zip.__next__» ⟨[.ref z], []⟩) (fun fin s' => ∃ v, fin = .done (.ret v) ∧ Q v s') E ⟨h, g, d, t, os⟩ := by
  refine cps fun PP kk => ?_
  obtain ⟨oz, hz, rfl⟩ := D.rd (a := z) (by walk_at "mem")
  obtain ⟨oTI, hoTI, rfl⟩ := D.rf hTI
  refine kk ?_
  clear kk PP
  show wpAny _ _ (field (.ref z) 2 >>= _) _ _ _
  refine wpAny_bind (wpAny_field (s := ⟨h, g, d, t, os⟩) hz rfl (x := .bool false) rfl ?_)
  show wpAny _ _ (field (.ref z) 3 >>= _) _ _ _
  refine wpAny_bind (wpAny_field (s := ⟨h, g, d, t, os⟩) hz rfl (x := .ref TI) rfl ?_)
  refine wpAny_bind (wpAny_seqItems (s := ⟨h, g, d, t, os⟩) hoTI rfl ?_)
  show wpAny _ _ (Builtin.SmallTypes.ownedTupleIsFree (.ref z) >>= _) _ _ _
  refine wpAny_bind ?_
  unfold Builtin.SmallTypes.ownedTupleIsFree
  refine wpAny_bind (wpAny_field (s := ⟨h, g, d, t, os⟩) hz rfl (x := .none) rfl (wpAny_pure ?_))
  simp only [if_true]
  refine wpAny_bind (wpAny_rule ?_)
  refine wpAny_bind (wpAny_field (s := ⟨h, g, d, t, os⟩) hz rfl (x := .ref TO) rfl ?_)
  refine wpAny_bind (zip_field0 D (.there .here) fun h1 D1 => ?_)
  refine wpAny_bind ?_
  simp only [List.zipIdx_cons, List.zipIdx_nil, List.forIn_cons, List.forIn_nil]
  refine wpAny_bind (wpAny_bind (wpAny_onRaise ?_))
  show wpAny _ _ (Builtin.SmallTypes.nextOf (.ref ri) >>= _) _ _ _
  refine wpAny_bind (nextOf_riter D1 (by walk_at "mem") (riter_call_item D1 (.there (.there (.there .here))) hleft fun h2 t2 D2 => wpAny_pure ?_))
  refine wpAny_bind (wpAny_seqItems (s := ⟨h2, g, d, t2, os⟩) (D2.pair (by walk_at "mem")) rfl ?_)
  refine wpAny_bind (pair_set D2 (.there (.there .here)) rfl fun h3 D3 => ?_)
  refine wpAny_bind (wpAny_letGo (wpAny_pure ?_))
  refine wpAny_bind (wpAny_bind (wpAny_onRaise ?_))
  show wpAny _ _ (Builtin.SmallTypes.nextOf (.ref tp) >>= _) _ _ _
  refine wpAny_bind (nextOf_tape D3 (.tail _ (.tail _ (.tail _ (.tail _ u.mem)))) (tape_call_item hn D3 (.there (.there (.there (.there u)))) (D3.flist hnl) hx fun h4 D4 => wpAny_pure ?_))
  refine wpAny_bind (wpAny_seqItems (s := ⟨h4, g, d, t2, os⟩) (D4.pair (by walk_at "mem")) rfl ?_)
  refine wpAny_bind (pair_set D4 (.there (.there .here)) rfl fun h5 D5 => ?_)
  refine wpAny_bind (wpAny_letGo (wpAny_pure (wpAny_pure ?_)))
  refine wpAny_bind (wpAny_seqItems (s := ⟨h5, g, d, t2, os⟩) (D5.pair (by walk_at "mem")) rfl ?_)
  refine wpAny_bind (wpAny_newTuple ?_)
  have D6 := D5.allocF (P := TupP [.int x t, v]) (o := { cls := .type "tuple", data := .seq #[.int x t, v] }) rfl rfl
  show wpAny _ _ (Builtin.SmallTypes.ownedTupleHandOut (.ref z) (.ref h5.objs.size) >>= _) _ _ _
  refine wpAny_bind ?_
  unfold Builtin.SmallTypes.ownedTupleHandOut
  refine wpAny_bind (zip_field0 D6 (.there .here) fun h7 D7 => ?_)
  refine zip_field1 D7 (.there .here) fun h8 D8 => ?_
  exact wpAny_pure ⟨_, rfl, hq _ _ _ D8⟩

theorem zip_end1 {Q : Fin → Shared → Prop} (hh : A.handled = none) (D : Led B h (f0 :: (z, ZipP TI TO .none) :: (TO, TupP [a, b]) :: (ri, RIterP x left 1) :: rest) fz) (hTI : (TI, TupP [.ref ri, .ref tp]) ∈ fz) (hleft : left ≤ 0)
    (hE : ∀ e a0 h', Led B h' (f0 :: rest) fz → (∃ o, h'.get? e = some o ∧ ExcP "StopIteration" a0 .none o) → E (.ref e) ⟨h', g, d, t, os⟩) :
    wpAny (model prog w) A (Builtin.«zip.__next__» ⟨[.ref z], []⟩) Q E ⟨h, g, d, t, os⟩ := by
  refine cps fun PP kk => ?_
  obtain ⟨oz, hz, rfl⟩ := D.rd (a := z) (by walk_at "mem")
  obtain ⟨oTI, hoTI, rfl⟩ := D.rf hTI
  refine kk ?_
  clear kk PP
  show wpAny _ _ (field (.ref z) 2 >>= _) _ _ _
  refine wpAny_bind (wpAny_field (s := ⟨h, g, d, t, os⟩) hz rfl (x := .bool false) rfl ?_)
  show wpAny _ _ (field (.ref z) 3 >>= _) _ _ _
  refine wpAny_bind (wpAny_field (s := ⟨h, g, d, t, os⟩) hz rfl (x := .ref TI) rfl ?_)
  refine wpAny_bind (wpAny_seqItems (s := ⟨h, g, d, t, os⟩) hoTI rfl ?_)
  show wpAny _ _ (Builtin.SmallTypes.ownedTupleIsFree (.ref z) >>= _) _ _ _
  refine wpAny_bind ?_
  unfold Builtin.SmallTypes.ownedTupleIsFree
  refine wpAny_bind (wpAny_field (s := ⟨h, g, d, t, os⟩) hz rfl (x := .none) rfl (wpAny_pure ?_))
  simp only [if_true]
  refine wpAny_bind (wpAny_rule ?_)
  refine wpAny_bind (wpAny_field (s := ⟨h, g, d, t, os⟩) hz rfl (x := .ref TO) rfl ?_)
  refine wpAny_bind (zip_field0 D (.there .here) fun h1 D1 => ?_)
  refine wpAny_bind ?_
  simp only [List.zipIdx_cons, List.zipIdx_nil, List.forIn_cons, List.forIn_nil]
  refine wpAny_bind (wpAny_bind (wpAny_onRaise ?_))
  show wpAny _ _ (Builtin.SmallTypes.nextOf (.ref ri) >>= _) _ _ _
  refine wpAny_bind (nextOf_riter D1 (by walk_at "mem") (riter_call_end hh D1 (by walk_at "mem") hleft fun e a0 h2 D2 => ?_))
  refine zip_field0 D2 (.there (.there .here)) fun h3 D3 => hE e a0 h3 ?_ (D3.rd (.head _))
  exact D3.sub ((List.Sublist.cons_cons _ ((((List.Sublist.refl _).cons _).cons _).cons _)).cons _) fun _ hp => hp

theorem zip_end2 {Q : Fin → Shared → Prop} (hh : A.handled = none) (D : Led B h (f0 :: (z, ZipP TI TO .none) :: (TO, TupP [a, b]) :: (ri, RIterP x left 1) :: rest) fz) (hTI : (TI, TupP [.ref ri, .ref tp]) ∈ fz) (hleft : 0 < left)
    (hn : xs.length = n) (u : Put tp (TapeP nl n i) (TapeP nl n n) rest rest') (hnl : (nl, LListP xs) ∈ fz) (hi : n ≤ i)
    (hE : ∀ e a0 h' t', Led B h' (f0 :: rest') fz → (∃ o, h'.get? e = some o ∧ ExcP "StopIteration" a0 .none o) → E (.ref e) ⟨h', g, d, t', os⟩) :
    wpAny (model prog w) A (Builtin.«zip.__next__» ⟨[.ref z], []⟩) Q E ⟨h, g, d, t, os⟩ := by
  refine cps fun PP kk => ?_
  obtain ⟨oz, hz, rfl⟩ := D.rd (a := z) (by walk_at "mem")
  obtain ⟨oTI, hoTI, rfl⟩ := D.rf hTI
  refine kk ?_
  clear kk PP
  show wpAny _ _ (field (.ref z) 2 >>= _) _ _ _
  refine wpAny_bind (wpAny_field (s := ⟨h, g, d, t, os⟩) hz rfl (x := .bool false) rfl ?_)
  show wpAny _ _ (field (.ref z) 3 >>= _) _ _ _
  refine wpAny_bind (wpAny_field (s := ⟨h, g, d, t, os⟩) hz rfl (x := .ref TI) rfl ?_)
  refine wpAny_bind (wpAny_seqItems (s := ⟨h, g, d, t, os⟩) hoTI rfl ?_)
  show wpAny _ _ (Builtin.SmallTypes.ownedTupleIsFree (.ref z) >>= _) _ _ _
  refine wpAny_bind ?_
  unfold Builtin.SmallTypes.ownedTupleIsFree
  refine wpAny_bind (wpAny_field (s := ⟨h, g, d, t, os⟩) hz rfl (x := .none) rfl (wpAny_pure ?_))
  simp only [if_true]
  refine wpAny_bind (wpAny_rule ?_)
  refine wpAny_bind (wpAny_field (s := ⟨h, g, d, t, os⟩) hz rfl (x := .ref TO) rfl ?_)
  refine wpAny_bind (zip_field0 D (.there .here) fun h1 D1 => ?_)
  refine wpAny_bind ?_
  simp only [List.zipIdx_cons, List.zipIdx_nil, List.forIn_cons, List.forIn_nil]
  refine wpAny_bind (wpAny_bind (wpAny_onRaise ?_))
  show wpAny _ _ (Builtin.SmallTypes.nextOf (.ref ri) >>= _) _ _ _
  refine wpAny_bind (nextOf_riter D1 (by walk_at "mem") (riter_call_item D1 (.there (.there (.there .here))) hleft fun h2 t2 D2 => wpAny_pure ?_))
  refine wpAny_bind (wpAny_seqItems (s := ⟨h2, g, d, t2, os⟩) (D2.pair (by walk_at "mem")) rfl ?_)
  refine wpAny_bind (pair_set D2 (.there (.there .here)) rfl fun h3 D3 => ?_)
  refine wpAny_bind (wpAny_letGo (wpAny_pure ?_))
  refine wpAny_bind (wpAny_bind (wpAny_onRaise ?_))
  show wpAny _ _ (Builtin.SmallTypes.nextOf (.ref tp) >>= _) _ _ _
  refine wpAny_bind (nextOf_tape D3 (.tail _ (.tail _ (.tail _ (.tail _ u.mem)))) (tape_call_end hn hh D3 (.there (.there (.there (.there u)))) (D3.flist hnl) (by omega) fun e a0 h4 D4 => ?_))
  refine zip_field0 D4 (.there (.there .here)) fun h5 D5 => hE e a0 h5 _ ?_ (D5.rd (.head _))
  exact D5.sub ((List.Sublist.cons_cons _ ((((List.Sublist.refl _).cons _).cons _).cons _)).cons _) fun _ hp => hp

theorem next_zip {Q : Option Value → Shared → Prop} (D : Led B h (f0 :: (z, ZipP TI TO .none) :: (TO, TupP [a, b]) :: (ri, RIterP x left 1) :: rest) fz) (hTI : (TI, TupP [.ref ri, .ref tp]) ∈ fz) (hleft : 0 < left)
    (hn : xs.length = n) (u : Put tp (TapeP nl n i) (TapeP nl n (i + 1)) rest rest') (hnl : (nl, LListP xs) ∈ fz) (hx : xs[i]? = some v)
    (hq : ∀ (T : Addr) h' t', Led B h' (f0 :: (z, ZipP TI TO (rawInt T)) :: (TO, TupP [.int x t, v]) :: (ri, RIterP (x + 1) (left - 1) 1) :: rest') ((T, TupP [.int x t, v]) :: fz) → Q (some (.ref T)) ⟨h', g, d, t', os⟩) :
    wpAny (model prog w) A (pyNext (.ref z)) Q E ⟨h, g, d, t, os⟩ := by
  obtain ⟨oz, hz, rfl⟩ := D.rd (a := z) (by walk_at "mem")
  have hT : (⟨h, g, d, t, os⟩ : Shared).TypeIs (.ref z) "zip" := ⟨_, hz, rfl⟩
  unfold pyNext
  exact wpAny_bind (wpAny_attempt (wpAny_callSpecial?_slot (name := Str.ofString "__next__") hT F.slot_zip_next
    (wpAny_call_entry F.slot_zip_next hT F.entry_zip_next (zip_item D hTI hleft hn u hnl hx fun T h' t' D' => wpAny_pure (hq T h' t' D')) (F.args_zip_next_1 _))))
theorem next_zip_end1 {Q : Option Value → Shared → Prop} (hh : A.handled = none) (D : Led B h (f0 :: (z, ZipP TI TO .none) :: (TO, TupP [a, b]) :: (ri, RIterP x left 1) :: rest) fz) (hTI : (TI, TupP [.ref ri, .ref tp]) ∈ fz) (hleft : left ≤ 0)
    (hq : ∀ h', Led B h' (f0 :: rest) fz → Q none ⟨h', g, d, t, os⟩) : wpAny (model prog w) A (pyNext (.ref z)) Q E ⟨h, g, d, t, os⟩ := by
  obtain ⟨oz, hz, rfl⟩ := D.rd (a := z) (by walk_at "mem")
  have hT : (⟨h, g, d, t, os⟩ : Shared).TypeIs (.ref z) "zip" := ⟨_, hz, rfl⟩
  unfold pyNext
  refine wpAny_bind (wpAny_attempt (wpAny_callSpecial?_slot (name := Str.ofString "__next__") hT F.slot_zip_next
    (wpAny_call_entry F.slot_zip_next hT F.entry_zip_next (zip_end1 hh D hTI hleft fun e a0 h' D' he => ?_) (F.args_zip_next_1 _))))
  obtain ⟨o, ho, hc⟩ := he
  refine wpAny_bind (wpAny_isInstance (T := "StopIteration") (b := true) ⟨o, ho, hc.1⟩ isSubtype_stop ?_)
  exact wpAny_pure (hq _ D')
theorem next_zip_end2 {Q : Option Value → Shared → Prop} (hh : A.handled = none) (D : Led B h (f0 :: (z, ZipP TI TO .none) :: (TO, TupP [a, b]) :: (ri, RIterP x left 1) :: rest) fz) (hTI : (TI, TupP [.ref ri, .ref tp]) ∈ fz) (hleft : 0 < left)
    (hn : xs.length = n) (u : Put tp (TapeP nl n i) (TapeP nl n n) rest rest') (hnl : (nl, LListP xs) ∈ fz) (hi : n ≤ i)
    (hq : ∀ h' t', Led B h' (f0 :: rest') fz → Q none ⟨h', g, d, t', os⟩) : wpAny (model prog w) A (pyNext (.ref z)) Q E ⟨h, g, d, t, os⟩ := by
  obtain ⟨oz, hz, rfl⟩ := D.rd (a := z) (by walk_at "mem")
  have hT : (⟨h, g, d, t, os⟩ : Shared).TypeIs (.ref z) "zip" := ⟨_, hz, rfl⟩
  unfold pyNext
  refine wpAny_bind (wpAny_attempt (wpAny_callSpecial?_slot (name := Str.ofString "__next__") hT F.slot_zip_next
    (wpAny_call_entry F.slot_zip_next hT F.entry_zip_next (zip_end2 hh D hTI hleft hn u hnl hi fun e a0 h' t' D' he => ?_) (F.args_zip_next_1 _))))
  obtain ⟨o, ho, hc⟩ := he
  refine wpAny_bind (wpAny_isInstance (T := "StopIteration") (b := true) ⟨o, ho, hc.1⟩ isSubtype_stop ?_)
  exact wpAny_pure (hq _ _ D')
theorem go_zip {Q : Unit → Shared → Prop} {elts : List Expr} {x1 : Nat} {pos : Pos} {T : Addr} (D : Led B h (f0 :: (z, ZipP TI TO (rawInt T)) :: rest) fz) (hq : ∀ h', Led B h' (f0 :: (z, ZipP TI TO .none) :: rest) fz → Q () ⟨h', g, d, t, os⟩) :
    wpAny (model prog w) A (letOwnedTupleGo (.Tuple elts x1 pos) (.ref z) (.ref T)) Q E ⟨h, g, d, t, os⟩ := by
  obtain ⟨oz, hz, rfl⟩ := D.rd (a := z) (by walk_at "mem")
  exact wpAny_letOwnedTupleGo_zip (s := ⟨h, g, d, t, os⟩) hz fun h' hz' hs' => hq h' (D.same (.there .here) hs' hz' rfl)
theorem iter_zip {Q : Value → Shared → Prop} {c : Value} (D : Led B h (f0 :: (z, ZipP TI TO c) :: rest) fz) (hq : Q (.ref z) ⟨h, g, d, t, os⟩) : wpAny (model prog w) A (pyIter (.ref z)) Q E ⟨h, g, d, t, os⟩ := by
  obtain ⟨oz, hz, rfl⟩ := D.rd (a := z) (by walk_at "mem")
  exact wpAny_pyIter_zip (s := ⟨h, g, d, t, os⟩) hz hq

theorem zip_new {r : Addr} {m : Int} (h3 : -(2 ^ 62) ≤ m) (h4 : m < 2 ^ 62) : Meets (Builtin.«zip.__new__» ⟨[.type "zip", .ref r, .ref tp], []⟩) (fun _ R s => ∃ B fz f0 rest nl n i, Led B s.heap (f0 :: (r, RangeP 0 m 1) :: rest) fz ∧ (tp, TapeP nl n i) ∈ rest ∧
    ∀ z TI TO ri h', h'.get? z = some { cls := .type "zip", dict := none, data := .fields #[.none, .bool false, .bool false, .ref TI, .ref TO], slots := #[] } → Led B h' (f0 :: (z, ZipP TI TO .none) :: (TO, TupP [.none, .none]) :: (ri, RIterP 0 (if 0 < m then m else 0) 1) :: rest) ((TI, TupP [.ref ri, .ref tp]) :: fz) → R (.ok (.ret (.ref z))) { s with heap := h' }) :=
  .of_wp fun prog w A R s hs => by
    refine cps fun PP kk => ?_
    obtain ⟨hp, g, d, tk, os⟩ := s
    obtain ⟨B, fz, f0, rest, nl, n, i, D, hm, hR⟩ := hs
    refine kk ?_
    clear kk PP
    have hsub := sub_zip
    unfold Builtin.«zip.__new__»
    refine wpAny_bind (wpAny_of_eq (a := (Value.type "zip", [Value.ref r, Value.ref tp])) (by first | rfl | (simp [Builtin.SmallTypes.newClass, hsub])) ?_)
    show wpAny _ _ (Builtin.SmallTypes.iterAll [.ref r, .ref tp] >>= _) _ _ _
    refine wpAny_bind ?_
    unfold Builtin.SmallTypes.iterAll
    simp only [List.forIn_cons, List.forIn_nil]
    refine wpAny_bind (wpAny_bind (wpAny_bind (wpAny_holding (it_range D (by decide) (by decide) h3 h4 fun ri h1 D1 => wpAny_pure ?_))))
    refine wpAny_bind (wpAny_bind (wpAny_holding (iter_tape D1 (.tail _ (.tail _ hm)) (wpAny_pure (wpAny_pure (wpAny_pure ?_))))))
    have D1' : Led B h1 (f0 :: (ri, RIterP 0 (if 0 < m then m else 0) 1) :: rest) fz := by simpa using D1
    show wpAny _ _ (newTuple [.ref ri, .ref tp] >>= _) _ _ _
    refine wpAny_bind (wpAny_newTuple ?_)
    have D2 := D1'.allocF (P := TupP [.ref ri, .ref tp]) (o := tupO [.ref ri, .ref tp]) rfl rfl
    show wpAny _ _ (newTuple [.none, .none] >>= _) _ _ _
    refine wpAny_bind (wpAny_newTuple ?_)
    have D3 := D2.alloc2 (P := TupP [.none, .none]) (o := tupO [.none, .none]) rfl rfl
    refine wpAny_bind (wpAny_newObj_type (T := "zip") (data := .fields #[.none, .bool false, .bool false, .ref h1.objs.size, .ref (h1.push (tupO [.ref ri, .ref tp])).objs.size]) ?_ (by size_fits))
    have D4 := D3.alloc2 (P := ZipP h1.objs.size (h1.push (tupO [.ref ri, .ref tp])).objs.size .none) rfl rfl
    exact wpAny_pure ⟨_, rfl, hR _ _ _ _ _ (Heap.get?_push_size _ rfl) D4⟩

theorem mk_zip {Q : Value → Shared → Prop} {r : Addr} {m : Int} (D : Led B h (f0 :: (r, RangeP 0 m 1) :: rest) fz) (hm : (tp, TapeP nl n i) ∈ rest) (h3 : -(2 ^ 62) ≤ m) (h4 : m < 2 ^ 62)
    (hq : ∀ z TI TO ri h', Led B h' (f0 :: (z, ZipP TI TO .none) :: (TO, TupP [.none, .none]) :: (ri, RIterP 0 (if 0 < m then m else 0) 1) :: rest) ((TI, TupP [.ref ri, .ref tp]) :: fz) → Q (.ref z) ⟨h', g, d, t, os⟩) :
    wpAny (model prog w) A (call (.type "zip") [.ref r, .ref tp]) Q E ⟨h, g, d, t, os⟩ := by
  refine callType_new F.called_zip (by decide) (F.typeCall_zip_2 _ _) (F.newCall_zip_2 _ _) (fun obj => F.args_object_init_3 obj _ _) F.entry_zip_new
    (zip_new h3 h4) ⟨B, fz, f0, rest, nl, n, i, D, hm, fun z TI TO ri h' hz D' => ?_⟩
  exact ⟨⟨_, hz, rfl⟩, hq _ _ _ _ _ D'⟩
end
end
end

section
/-! ## comprehensions -/
theorem noteFrame_congr {env env' : Env} (hf : env'.frame = env.frame) (x : Value) : noteFrame x env' = noteFrame x env := by
  unfold noteFrame PySem.frameOf
  rw [hf]

section
variable {prog : Program} {w : World} {M : Model} {A : Around} {E : Value → Shared → Prop} {s : Shared} {env : Env}

theorem comp_exact {e : Expr} {scope : Scope} {pos : Pos} {newAcc first : Sem Value} {gc : Comprehension} {gs : List Comprehension} {cl : List (Str × Addr)} {use : Option (Value → Sem Unit)} {Q : Value → Shared → Prop}
    (hcl : clausesOf e = gc :: gs) (hs : ∀ x, foldedSetIterable gc.iter env x = pure x) (hclos : closureFor scope env = pure cl)
    (hkind : scope.kind = .function) (hnames : ∀ x ∈ scope.names, x.2 = .local → scope.names.lookup x.1 = some .local)
    (h : wpAny M A first (fun x s₁ => wpAny M A (pyIter x) (fun it s₂ => wpAny M A newAcc (fun acc s₃ =>
      wpAny M A (newFunctionEnv scope env.globals cl [] env.qual none .none (some env)) (fun cenv s₄ =>
        codeAny M A (.compStart e 0 it acc { cenv with scope := relabel scope env }) (fun r s' => match r, use with
          | .ok _, none => ∃ m, s'.heap.Ns cenv.locals m ∧ ∀ h', Heap.SameBut cenv.locals s'.heap h' → Q acc { s' with heap := h' }
          | .ok _, some u => wpAny M A (u acc) (fun _ s'' => ∃ m, s''.heap.Ns cenv.locals m ∧ ∀ h', Heap.SameBut cenv.locals s''.heap h' → Q .none { s'' with heap := h' }) E s'
          | .error x, _ => ∃ m, s'.heap.Ns cenv.locals m ∧ ∀ h', Heap.SameBut cenv.locals s'.heap h' → wpAny M A (passOn "comprehension.variables-let-go" x { cenv with scope := relabel scope env } : Sem Value) (fun _ _ => False) E { s' with heap := h' }) s₄) E s₃) E s₂) E s₁) E s) :
    wpAny M A (comprehension e scope env pos newAcc false first use) Q E s := by
  unfold comprehension
  rw [hclos, hcl]
  refine wpAny_bind (wpAny_mono h (fun x s₁ h₁ => wpAny_bind (wpAny_standAt (wpAny_bind (wpAny_of_eq (hs x) (wpAny_bind (wpAny_holding (wpAny_mono h₁ (fun it s₂ h₂ =>
    wpAny_standIf (wpAny_bind (wpAny_mono h₂ (fun acc s₃ h₃ => wpAny_bind (wpAny_pure (wpAny_bind (wpAny_mono h₃ (fun cenv s₄ h₄ => ?_) fun _ _ h' => h')))) fun _ _ h' => h')))
      fun _ _ h' => h'))))))) fun _ _ h' => h')
  dsimp only
  have hv : ∀ x ∈ (scope.names.filter fun x => (x.2 == .local || x.2 == .cell) && x.1 != (".0" : Str)).reverse, x.2 = .local →
      Env.kindOf { cenv with scope := relabel scope env } x.1 = some .local := fun x hx hl => lookup_relabel_local (hnames x (List.mem_filter.mp (List.mem_reverse.mp hx)).1 hl)
  have hv' : ∀ x ∈ (scope.names.filter fun x => (x.2 == .local || x.2 == .cell) && x.1 != (".0" : Str)).reverse.drop 1 ++ (scope.names.filter fun x => (x.2 == .local || x.2 == .cell) && x.1 != (".0" : Str)).reverse.take 1,
      x.2 = .local → Env.kindOf { cenv with scope := relabel scope env } x.1 = some .local := fun x hx hl => by
    rcases List.mem_append.mp hx with h1 | h1
    · exact hv x (List.mem_of_mem_drop h1) hl
    · exact hv x (List.mem_of_mem_take h1) hl
  refine wpAny_holding (wpAny_bind (wpAny_attempt (wpAny_holding (wpAny_run (codeAny_mono h₄ fun r s' hr => ?_)))))
  cases r with
  | ok f =>
    cases use with
    | none =>
      obtain ⟨m, hn, hr⟩ := hr
      exact wpAny_bind (wpAny_holding (wpAny_comp_letGo (cenv := { cenv with scope := relabel scope env }) hkind _ s' m hv hn fun h' m' _ hs' => wpAny_pure (hr h' hs')))
    | some u =>
      refine wpAny_bind (wpAny_rule (wpAny_bind (wpAny_holding (wpAny_mono hr (fun _ s'' hr' => ?_) fun _ _ h' => h'))))
      obtain ⟨m, hn, hr'⟩ := hr'
      exact wpAny_bind (wpAny_comp_letGo (cenv := { cenv with scope := relabel scope env }) hkind _ s'' m hv' hn fun h' m' _ hs' => wpAny_pure (hr' h' hs'))
  | error x =>
    have hr' : ∃ m, s'.heap.Ns cenv.locals m ∧ ∀ h', Heap.SameBut cenv.locals s'.heap h' → wpAny M A (passOn "comprehension.variables-let-go" x { cenv with scope := relabel scope env } : Sem Value) (fun _ _ => False) E { s' with heap := h' } := by cases use <;> exact hr
    obtain ⟨m, hn, hr⟩ := hr'
    exact wpAny_bind (wpAny_holding (wpAny_comp_letGo (cenv := { cenv with scope := relabel scope env }) hkind _ s' m hv hn fun h' m' _ hs' => wpAny_mono (hr h' hs') (fun _ _ f => f.elim) fun _ _ y => y))

theorem comp_turns {R : Result → Shared → Prop} {elt target iter : Expr} {scope : Scope} {pos : Pos} {it acc : Value} {cenv : Env} (I : Nat → Shared → Prop)
    (turn : ∀ n s, I n s → wpAny (model prog w) A (pyNext it) (fun r s₁ => match r with
      | none => R (.ok .next) s₁
      | some v => wpAny (model prog w) A (letOwnedTupleGo target it v) (fun _ s₁ => wpAny (model prog w) A (assign target cenv v) (fun _ s₂ => wpAny (model prog w) A (eval elt cenv) (fun x s₃ =>
          wpAny (model prog w) A (call (.builtin "list.append") [acc, x]) (fun _ s₄ => ∃ m, m < n ∧ I m s₄) (notedBy (model prog w) A cenv fun e s' => R (.error e) s') s₃)
          (notedBy (model prog w) A cenv fun e s' => R (.error e) s') s₂) (notedBy (model prog w) A cenv fun e s' => R (.error e) s') s₁) (notedBy (model prog w) A cenv fun e s' => R (.error e) s') s₁) (notedBy (model prog w) A cenv fun e s' => R (.error e) s') s)
    (n : Nat) (h : I n s) : codeAny (model prog w) A (.compLoop (.ListComp elt [⟨target, iter, [], 0⟩] scope pos) 0 it acc cenv) R s := by
  refine codeAny_loop rfl I (fun n s hI => ?_) n h
  show wpAny _ _ ((compTurn (.ListComp elt [⟨target, iter, [], 0⟩] scope pos) 0 it acc cenv).onRaise (fun x => do noteFrame x cenv; theTreesLotGoes x)) _ _ s
  refine wpAny_noted ?_
  rw [compTurn_list1]
  refine wpAny_bind (wpAny_standAt (wpAny_bind (wpAny_mono (turn n s hI) (fun r s₁ h₁ => ?_) fun _ _ h' => h')))
  cases r with
  | none => exact wpAny_pure h₁
  | some v =>
    refine wpAny_bind (wpAny_mono h₁ (fun _ s₁ h₁ => ?_) fun _ _ h' => h')
    exact wpAny_bind (wpAny_mono h₁ (fun _ s₂ h₂ => wpAny_bind (wpAny_bind (wpAny_mono h₂ (fun x s₃ h₃ => wpAny_bind (wpAny_mono h₃
      (fun _ s₄ h₄ => wpAny_pure (wpAny_pure ⟨rfl, h₄⟩)) fun _ _ h' => h')) fun _ _ h' => h'))) fun _ _ h' => h')
end

section
variable {prog : Program} {w : World} {A : Around} {E : Value → Shared → Prop} {B h : Heap} {live rest fz : List Ent} {g : Array GenState} {d : Drawn} {t : Nat} {os : OsState} {env : Env} {L : Addr}

theorem Led.ns {C : Addr} {kvs : List (Str × Value)} (D : Led B h ((C, FrameP kvs) :: rest) fz) : ∃ m, h.Ns C m := by
  refine cps fun PP kk => ?_
  obtain ⟨o, ho, hp⟩ := D.rd (.head _)
  obtain ⟨m, hn, _⟩ := FrameP.ns ho hp
  refine kk ?_
  clear kk PP
  exact ⟨m, hn⟩
theorem Led.sameDrop {C : Addr} {P : Obj → Prop} (D : Led B h ((C, P) :: rest) fz) {h' : Heap} (hs : Heap.SameBut C h h') : Led B h' rest fz := by
  have nd := D.nd
  rw [List.map_cons, List.nodup_cons] at nd
  refine ⟨fun b o e => (hs.2 b fun q => ?_).trans (D.keep b o e), fun p hp => ?_, fun p hp => ?_, nd.2, fun p hp hq => D.sp p hp (.tail _ hq)⟩
  · rw [q, (D.lv _ (.head _)).2] at e; cases e
  · obtain ⟨⟨o, e, q⟩, k⟩ := D.lv p (.tail _ hp)
    exact ⟨⟨o, (hs.2 _ fun z => nd.1 (by rw [← z]; exact List.mem_map_of_mem (f := (·.1)) hp)).trans e, q⟩, k⟩
  · obtain ⟨⟨o, e, q⟩, k⟩ := D.fv p hp
    exact ⟨⟨o, (hs.2 _ fun z => D.sp p hp (by rw [z]; exact .head _)).trans e, q⟩, k⟩

/-- the end of a comprehension: its names let go -/
def CompEnd (prog : Program) (w : World) (A : Around) (E : Value → Shared → Prop) (B : Heap) (g : Array GenState) (d : Drawn) (os : OsState) (L C acc : Addr) (use : Option (Value → Sem Unit)) (Q : Value → Shared → Prop) (r : Result) (s' : Shared) : Prop :=
  match r, use with
  | .ok _, none => ∃ h t rest fz kvs, s' = ⟨h, g, d, t, os⟩ ∧ Led B h ((C, FrameP kvs) :: rest) fz ∧ ∀ h', Led B h' rest fz → Q (.ref acc) ⟨h', g, d, t, os⟩
  | .ok _, some u => wpAny (model prog w) A (u (.ref acc)) (fun _ s'' => ∃ h t rest fz kvs, s'' = ⟨h, g, d, t, os⟩ ∧ Led B h ((C, FrameP kvs) :: rest) fz ∧ ∀ h', Led B h' rest fz → Q .none ⟨h', g, d, t, os⟩) E s'
  | .error x, _ => ∃ h t rest fz kvs e cls a0 fl, x = .ref e ∧ s' = ⟨h, g, d, t, os⟩ ∧ Fly B h ((C, FrameP kvs) :: rest) fz e cls a0 fl ∧ ∀ h', Fly B h' rest fz e cls a0 (rawInt L) → E (.ref e) ⟨h', g, d, t, os⟩

theorem comp_ledger {elt target iter : Expr} {scope : Scope} {pos p2 : Pos} {cl : List (Str × Addr)} {use : Option (Value → Sem Unit)} {Q : Value → Shared → Prop}
    (hf : env.frame = some L) (hclos : closureFor scope env = pure cl)
    (hkind : scope.kind = .function) (hnames : ∀ x ∈ scope.names, x.2 = .local → scope.names.lookup x.1 = some .local) (hcell : ∀ y ∈ scope.names, y.2 ≠ .cell)
    (h₁ : wpAny (model prog w) A (eval iter env) (fun x s₁ => wpAny (model prog w) A (pyIter x) (fun it s₂ => ∃ h t live fz, s₂ = ⟨h, g, d, t, os⟩ ∧ Led B h live fz ∧ ∀ C acc h' t', Led B h' ((C, FrameP []) :: (acc, LListP []) :: live) fz →
      (∀ E' Q', Q' it ⟨h', g, d, t', os⟩ → wpAny (model prog w) A (pyIter it) Q' E' ⟨h', g, d, t', os⟩) ∧
      codeAny (model prog w) A (.compLoop (.ListComp elt [⟨target, iter, [], 0⟩] scope pos) 0 it (.ref acc) (compEnvC scope cl C env)) (CompEnd prog w A E B g d os L C acc use Q) ⟨h', g, d, t', os⟩) E s₁) E ⟨h, g, d, t, os⟩)
    (hs : ∀ x, foldedSetIterable iter env x = pure x := by intro _; rfl) :
    wpAny (model prog w) A (comprehension (.ListComp elt [⟨target, iter, [], 0⟩] scope pos) scope env p2 (newList []) false (eval iter env) use) Q E ⟨h, g, d, t, os⟩ := by
  refine comp_exact (cl := cl) rfl hs hclos hkind hnames (wpAny_mono h₁ (fun x s₁ h₁ => wpAny_mono h₁ (fun it s₂ h₂ => ?_) fun _ _ e => e) fun _ _ e => e)
  refine cps fun PP kk => ?_
  obtain ⟨h₂, t₂, live, fz, rfl, D, hq⟩ := h₂
  refine kk ?_
  clear kk PP
  refine wpAny_newObj_type (wpAny_newFunctionEnv hcell (by intro y hy; simp at hy) (fun h₃ hns hsb => ?_) hkind) (by size_fits)
  dsimp only at hns hsb ⊢
  have D1 := D.alloc (P := LListP []) (o := lstO [] 0) ⟨_, rfl⟩ rfl
  generalize hH : h₂.push (lstO [] 0) = H at hns hsb D1 ⊢
  have D2 : Led B h₃ ((H.objs.size, FrameP []) :: (h₂.objs.size, LListP []) :: live) fz := by
    have D0 := D1.alloc (P := AnyP) (o := { cls := Value.type (if (some env).isSome = true then "dict" else "frame"), data := .dict #[] }) trivial rfl
    obtain ⟨oL, hoL, hpL⟩ := FrameP.of_ns (kvs := []) hns fun x v e => by simp [aget] at e
    exact D0.same .here hsb hoL hpL
  obtain ⟨hit, hloop⟩ := hq _ _ _ _ D2
  have fin : ∀ r s', CompEnd prog w A E B g d os L H.objs.size h₂.objs.size use Q r s' → (match r, use with
      | .ok _, none => ∃ m, s'.heap.Ns H.objs.size m ∧ ∀ h', Heap.SameBut H.objs.size s'.heap h' → Q (.ref h₂.objs.size) { s' with heap := h' }
      | .ok _, some u => wpAny (model prog w) A (u (.ref h₂.objs.size)) (fun _ s'' => ∃ m, s''.heap.Ns H.objs.size m ∧ ∀ h', Heap.SameBut H.objs.size s''.heap h' → Q .none { s'' with heap := h' }) E s'
      | .error x, _ => ∃ m, s'.heap.Ns H.objs.size m ∧ ∀ h', Heap.SameBut H.objs.size s'.heap h' → wpAny (model prog w) A (passOn "comprehension.variables-let-go" x (compEnvC scope cl H.objs.size env) : Sem Value) (fun _ _ => False) E { s' with heap := h' }) := by
    intro r s' hr
    cases r with
    | ok f =>
      cases use with
      | none =>
        refine cps fun PP kk => ?_
        obtain ⟨h', t', rest, fz', kvs, rfl, D', hq'⟩ := hr
        obtain ⟨m, hm⟩ := D'.ns
        refine kk ?_
        clear kk PP
        exact ⟨m, hm, fun h'' hs'' => hq' h'' (D'.sameDrop hs'')⟩
      | some u =>
        refine wpAny_mono hr (fun _ s'' hr' => ?_) fun _ _ e => e
        refine cps fun PP kk => ?_
        obtain ⟨h', t', rest, fz', kvs, rfl, D', hq'⟩ := hr'
        obtain ⟨m, hm⟩ := D'.ns
        refine kk ?_
        clear kk PP
        exact ⟨m, hm, fun h'' hs'' => hq' h'' (D'.sameDrop hs'')⟩
    | error x =>
      refine cps fun PP kk => ?_
      obtain ⟨h', t', rest, fz', kvs, e, cls, a0, fl, rfl, rfl, ⟨T, D'⟩, hq'⟩ : ∃ h t rest fz kvs e cls a0 fl, x = .ref e ∧ s' = ⟨h, g, d, t, os⟩ ∧ Fly B h ((H.objs.size, FrameP kvs) :: rest) fz e cls a0 fl ∧ ∀ h', Fly B h' rest fz e cls a0 (rawInt L) → E (.ref e) ⟨h', g, d, t, os⟩ := by cases use <;> exact hr
      refine kk ?_
      clear kk PP
      have D3 : Led B h' ((H.objs.size, FrameP kvs) :: (e, ExcP cls a0 (.ref T)) :: (T, TbP fl) :: rest) fz' := D'.perm (by
        refine (List.Perm.swap _ _ _).trans ?_
        exact (List.Perm.swap _ _ _).cons _)
      obtain ⟨m, hm⟩ := D3.ns
      refine ⟨m, hm, fun h'' hs'' => ?_⟩
      have D4 := D3.sameDrop hs''
      unfold PySem.passOn
      refine wpAny_bind (exc_field D4 (.head _) ?_)
      rw [if_neg (by simp)]
      refine wpAny_bind (set_flight ⟨T, D4⟩ fun h5 D5 => wpAny_throw (hq' h5 ?_))
      rw [show (compEnvC scope cl H.objs.size env).frame = some L from hf] at D5
      exact D5
  have loop := codeAny_mono hloop fin
  exact codeAny_compStart_list loop (hit _ _ loop)
end
end

section
/-! ## nsmallest: the first n records -/
abbrev Rec := Int × List Int
inductive Run (ns : List Int) (i : Nat) : List Rec → Nat → Prop
  | nil : Run ns i [] i
  | snoc {recs : List Rec} {j : Nat} (hj : j < ns.length) : Run ns i recs j → j + 1 + rOf ns[j] ≤ ns.length → spoilt ns[j] = false → Run ns i (recs ++ [(ns[j], restOf ns (j + 1) ns[j])]) (j + 1 + rOf ns[j])
theorem Run.le {ns : List Int} {i j : Nat} {recs : List Rec} (r : Run ns i recs j) (hi : i ≤ ns.length) : j ≤ ns.length := by
  cases r with
  | nil => exact hi
  | snoc _ _ h _ => exact h
theorem Run.len {ns : List Int} {i j : Nat} {recs : List Rec} (r : Run ns i recs j) : i + recs.length ≤ j := by
  induction r with
  | nil => simp
  | snoc _ _ _ _ ih => simp only [List.length_append, List.length_cons, List.length_nil]; omega
def numbered (recs : List Rec) : List Tri := recs.zipIdx.map fun p => (p.1.2, (p.2 : Int), p.1.1)
theorem numbered_snoc (recs : List Rec) (r : Rec) : numbered (recs ++ [r]) = numbered recs ++ [(r.2, (recs.length : Int), r.1)] := by
  unfold numbered
  rw [List.zipIdx_append]
  simp

abbrev sN := Str.ofString "n"
abbrev sIterable := Str.ofString "iterable"
abbrev sIt := Str.ofString "it"
abbrev sResult := Str.ofString "result"
abbrev nsmEnv (kc L f : Addr) (cdv : Value) : Env := envAt 5 (Str.ofString "nsmallest") [(Str.ofString "key", kc)] L f cdv

section
variable {prog : Program} {w : World} {A : Around} {Q : Flow → Shared → Prop} {E : Value → Shared → Prop} {B h : Heap} {fz : List Ent} {g : Array GenState} {d : Drawn} {t : Nat} {os : OsState} {mg mb : Str → Option Value} {fa : Nat → Addr}

theorem callWith_key {fz live : List Ent} {f c cd : Addr} {pos : Pos} {e : Expr} {rest : List Expr} {env : Env} {Q : Value → Shared → Prop} (hf : (f, KeyP c cd) ∈ fz) (D : Led B h live fz)
    (hq : wpAny (model prog w) A (spliced (backTo pos (starEach (e :: rest) env))) (fun vs s₁ => (∃ h t live fz', s₁ = ⟨h, g, d, t, os⟩ ∧ Led B h live fz' ∧ (f, KeyP c cd) ∈ fz') ∧ wpAny (model prog w) A (call (.ref f) vs) Q E s₁) E ⟨h, g, d, t, os⟩)
    (he : starEach (e :: rest) env = (false, eval e env) :: starEach rest env := by rfl) (hplain : (backTo pos (starEach rest env)).any (·.1) = false := by rfl) :
    wpAny (model prog w) A (callWith pos (.ref f) [] (backTo pos (starEach (e :: rest) env)) []) Q E ⟨h, g, d, t, os⟩ := by
  have fa : ∀ {h : Heap} {live fz : List Ent}, Led B h live fz → (f, KeyP c cd) ∈ fz → FnAt f h := by
    intro h live fz D hf
    refine cps fun PP kk => ?_
    obtain ⟨⟨oc, od, dt, sl⟩, ho, doc, pm, ctv, hd⟩ := D.rf hf
    refine kk ?_
    clear kk PP
    subst hd
    exact ⟨_, _, _, _, ho⟩
  refine callWith_F (first := []) (s := ⟨h, g, d, t, os⟩) (fa D hf) (wpAny_mono hq (fun vs s₁ h₁ => ?_) fun _ _ e => e) he hplain
  refine cps fun PP kk => ?_
  obtain ⟨⟨h', t', live', fz', rfl, D', hf'⟩, hc⟩ := h₁
  refine kk ?_
  clear kk PP
  exact ⟨fa D' hf', hc⟩

theorem comp_noted {live : List Ent} {scope : Scope} {cl : List (Str × Addr)} {C e L : Addr} {env0 : Env} {outer : List Env} {cls : String} {a0 : Value} {R : Value → Shared → Prop} (hf : env0.frame = some L) (hfr : A.frames = some (env0 :: outer)) (hF : FrOk live (env0 :: outer))
    (D : Fly B h live fz e cls a0 .none) (hq : ∀ h', Fly B h' live fz e cls a0 (rawInt L) → R (.ref e) ⟨h', g, d, t, os⟩) : notedBy (model prog w) A (compEnvC scope cl C env0) R (.ref e) ⟨h, g, d, t, os⟩ := by
  unfold notedBy
  rw [noteFrame_congr (env := env0) (env' := compEnvC scope cl C env0) rfl]
  exact note_fly hfr hF hf D hq

theorem fill_end {C acc L kc f : Addr} {cdv : Value} {kvs kvs0 kvs1 : List (Str × Value)} {vs : List Value} {R : List Ent} {pos : Pos} {Q : Value → Shared → Prop} (D : Led B h ((C, FrameP kvs) :: (acc, LListP vs) :: (L, FrameP kvs0) :: R) fz)
    (ha : aput sResult (.ref acc) kvs0 = kvs1) (hq : ∀ h' t', Led B h' ((L, FrameP kvs1) :: (acc, LListP vs) :: R) fz → Q .none ⟨h', g, d, t', os⟩) :
    CompEnd prog w A E B g d os L C acc (some (assign (.Name sResult pos) (nsmEnv kc L f cdv))) Q (.ok .next) ⟨h, g, d, t, os⟩ := by
  subst ha
  show wpAny (model prog w) A (assign (.Name sResult pos) (nsmEnv kc L f cdv) (.ref acc)) _ E _
  refine wpAny_assign_Name ?_
  refine st_local (kvs := kvs0) D (.there (.there .here)) (by rfl) (by rfl) (fun h1 t1 D1 => ?_)
  exact ⟨h1, t1, _, _, kvs, rfl, D1, fun h2 D2 => hq h2 t1 (D2.perm (List.Perm.swap _ _ _))⟩

theorem nsm_fill {nl c kf tp kc L f : Addr} {cdv : Value} {ns : List Int} {K : (Obj → Prop) → List Ent} {i : Nat} {n : Int} {tn : Tok} {outer : List Env} (S : Stat B mg mb fa) (T : Tape fz nl c kf tp ns) (hkc : (kc, CellP (.ref kf)) ∈ fz)
    (hK : ∀ P P', Put tp P P' (K P) (K P')) (D : Led B h ((L, FrameP [(sN, .int n tn), (sIterable, .ref tp), (sIt, .ref tp)]) :: K (TapeP nl ns.length i)) fz) (hi : i ≤ ns.length)
    (hn1 : -(2 ^ 62) ≤ n) (hn2 : n < 2 ^ 62) (hnl : ns.length < 2 ^ 20)
    (hh : A.handled = none) (hd : A.depth + 2 < recursionLimit) (hfr : A.frames = some (nsmEnv kc L f cdv :: outer)) (hF : ∀ P, FrOk (K P) outer)
    (hok : ∀ (recs : List Rec) (j : Nat) (rl : Addr) (items : List (Value × Tri)) fz' h' t', (∀ p, p ∈ fz → p ∈ fz') → Run ns i recs j → recs.length ≤ n.toNat → (recs.length = n.toNat ∨ j = ns.length) → items.map (·.2) = numbered recs → (∀ x, x ∈ items → IsTri fz' x.1 x.2) →
      Led B h' ((L, FrameP [(sN, .int n tn), (sIterable, .ref tp), (sIt, .ref tp), (sResult, .ref rl)]) :: (rl, LListP (items.map (·.1))) :: K (TapeP nl ns.length j)) fz' →
      wpAny (model prog w) A (execs ((bodyOf (stmtAt 5)).drop 5) (nsmEnv kc L f cdv)) Q E ⟨h', g, d, t', os⟩)
    (hcut : ∀ recs j e a0 fz' h' t', (∀ p, p ∈ fz → p ∈ fz') → Run ns i recs j → recs.length < n.toNat → (hj : j < ns.length) → ns.length < j + 1 + rOf ns[j] →
      Fly B h' ((L, FrameP [(sN, .int n tn), (sIterable, .ref tp), (sIt, .ref tp)]) :: K (TapeP nl ns.length ns.length)) fz' e "StopIteration" a0 (rawInt L) → E (.ref e) ⟨h', g, d, t', os⟩)
    (hsp : ∀ recs j tx e a0 rv fz' h' t', (∀ p, p ∈ fz → p ∈ fz') → Run ns i recs j → recs.length < n.toNat → (hj : j < ns.length) → j + 1 + rOf ns[j] ≤ ns.length → spoilt ns[j] = true → (a0, TupP [.int ns[j] tx, rv]) ∈ fz' → IsInts fz' rv (restOf ns (j + 1) ns[j]) →
      Fly B h' ((L, FrameP [(sN, .int n tn), (sIterable, .ref tp), (sIt, .ref tp)]) :: K (TapeP nl ns.length (j + 1 + rOf ns[j]))) fz' e "ValueError" (.ref a0) (rawInt L) → E (.ref e) ⟨h', g, d, t', os⟩) :
    wpAny (model prog w) A (execs ((bodyOf (stmtAt 5)).drop 4) (nsmEnv kc L f cdv)) Q E ⟨h, g, d, t, os⟩ := by
  refine cps fun PP kk => ?_
  obtain ⟨cd, hkf, hcd⟩ := T.key
  obtain ⟨nvs, hnlm, hnv⟩ := T.nums
  refine kk ?_
  clear kk PP
  have hlen := IntsAre.len hnv
  refine wpAny_execs_cons ?_
  rw [exec_Assign_Name_used _ _ _ _ (by rfl)]
  refine wpAny_bind (wpAny_standAt (wpAny_bind ?_))
  refine wpAny_bind ?_
  refine comp_ledger (B := B) (g := g) (d := d) (os := os) (cl := [(Str.ofString "key", kc)]) (L := L) rfl (by rfl) (by rfl) (by decide +kernel) (by decide +kernel) ?_
  refine Call_ ?_
  walk_at "nb"
  refine Pv.callWith_type1 ?_
  refine args_cons ?_
  refine Call_ ?_
  walk_at "nb"
  refine Pv.callWith_type1 ?_
  refine args_cons ?_
  walk_at "nl"
  refine args_nil ?_
  refine mk_range1 D (fun r h1 t1 D1 => ?_)
  refine args_cons ?_
  walk_at "nl"
  refine args_nil ?_
  refine mk_zip D1 (hK _ (TapeP nl ns.length i)).mem hn1 hn2 (fun z TI TO ri h2 D2 => ?_)
  refine iter_zip D2 ?_
  refine ⟨h2, _, _, _, rfl, D2, fun C acc h3 t3 D3 => ?_⟩
  have D4 : Led B h3 ((C, FrameP []) :: (z, ZipP TI TO .none) :: (TO, TupP [.none, .none]) :: (ri, RIterP 0 (n.toNat : Int) 1) :: (acc, LListP []) :: (L, FrameP [(sN, .int n tn), (sIterable, .ref tp), (sIt, .ref tp)]) :: K (TapeP nl ns.length i)) ((TI, TupP [.ref ri, .ref tp]) :: fz) := by
    rw [show (n.toNat : Int) = if 0 < n then n else 0 by split <;> omega]
    refine D3.perm (List.Perm.cons _ ?_)
    refine List.Perm.trans ?_ (List.perm_append_comm (l₁ := [(z, ZipP TI TO .none), (TO, TupP [.none, .none]), (ri, RIterP 0 (if 0 < n then n else 0) 1)]) (l₂ := [(acc, LListP []), (L, FrameP [(sN, .int n tn), (sIterable, .ref tp), (sIt, .ref tp)])]) |>.append_right (K (TapeP nl ns.length i)))
    exact List.Perm.refl _
  refine ⟨fun E' Q' hq' => ?_, ?_⟩
  · exact iter_zip (D4) hq'
  refine comp_turns (fun m s => ∃ (h' : Heap) (t' : Nat) (recs : List Rec) (j : Nat) (items : List (Value × Tri)) (fz' : List Ent) (a b : Value), s = ⟨h', g, d, t', os⟩ ∧ m + recs.length = n.toNat ∧ (∀ p, p ∈ ((TI, TupP [.ref ri, .ref tp]) :: fz) → p ∈ fz') ∧ Run ns i recs j ∧ items.map (·.2) = numbered recs ∧ (∀ x, x ∈ items → IsTri fz' x.1 x.2) ∧
    Led B h' ((C, FrameP []) :: (z, ZipP TI TO .none) :: (TO, TupP [a, b]) :: (ri, RIterP (recs.length : Int) (m : Int) 1) :: (acc, LListP (items.map (·.1))) :: (L, FrameP [(sN, .int n tn), (sIterable, .ref tp), (sIt, .ref tp)]) :: K (TapeP nl ns.length j)) fz') ?turn n.toNat
    ⟨h3, t3, [], i, [], _, .none, .none, rfl, by simp, fun _ hp => hp, .nil, rfl, by intro _ hx; simp at hx, D4⟩
  intro m s hEx
  refine cps fun PP kk => ?_
  obtain ⟨h5, t5, recs, j, items, fz5, a, b, rfl, hm, hfz, hrun, hnum, htri, D5⟩ := hEx
  refine kk ?_
  clear kk PP
  have hjl := hrun.le hi
  have hTI5 := hfz _ (.head _)
  have hfz' : ∀ p, p ∈ fz → p ∈ fz5 := fun p hp => hfz p (.tail _ hp)
  cases m with
  | zero =>
    refine next_zip_end1 hh D5 hTI5 (by omega) (fun h6 D6 => ?_)
    refine fill_end D6 (by walk_at "ap") (fun h7 t7 D7 => ?_)
    refine wpAny_pure (wpAny_pure ?_)
    exact hok recs j acc items fz5 h7 t7 hfz' hrun (by omega) (.inl (by omega)) hnum htri D7
  | succ m =>
    by_cases hend : j < ns.length
    · obtain ⟨tv, hv⟩ := ints_get hnv j hend
      refine next_zip D5 hTI5 (by omega) hlen (.there (.there (hK _ _))) (hfz' _ hnlm) hv (fun Tt h6 t6 D6 => ?_)
      refine go_zip D6 (fun h7 D7 => ?_)
      refine wpAny_assign_Tuple (s := ⟨h7, g, d, t6, os⟩) hh (D7.ftup (.head _)) (by rfl) (by rfl) (fun h8 hx8 => ?_)
      have D8 := D7.extFresh hx8
      refine wpAny_assignInOrder_more ?_
      refine wpAny_assign_Name ?_
      walk_at "st"
      intro h9 t9 D9
      refine wpAny_assignInOrder_more ?_
      refine wpAny_assign_Name ?_
      walk_at "st"
      intro h10 t10 D10
      refine wpAny_assignInOrder_none ?_
      refine Tuple_ ?_
      refine args_cons ?_
      refine Call_ ?_
      refine wpAny_Name (ld_cell D10 (.inr (.tail _ (hfz' _ hkc))) (by rfl) (by rfl) (.inl (by rfl)) ?_) (by decide)
      refine callWith_key (.tail _ (hfz' _ hkf)) D10 ?_
      refine args_cons ?_
      walk_at "nl"
      refine args_nil ?_
      refine ⟨⟨h10, _, _, _, rfl, D10, .tail _ (hfz' _ hkf)⟩, ?_⟩
      have hFr : ∀ P, FrOk ((C, FrameP [(Str.ofString "i", .int (recs.length : Int) t5), (Str.ofString "elem", .int ns[j] tv)]) :: (z, ZipP TI TO .none) :: (TO, TupP [.int (recs.length : Int) t5, .int ns[j] tv]) :: (ri, RIterP ((recs.length : Int) + 1) (((m + 1 : Nat) : Int) - 1) 1) :: (acc, LListP (items.map (·.1))) :: (L, FrameP [(sN, .int n tn), (sIterable, .ref tp), (sIt, .ref tp)]) :: K P) (nsmEnv kc L f cdv :: outer) := by
        intro P env he
        rcases List.mem_cons.mp he with rfl | he
        · exact ⟨show (scopeOf (stmtAt 5)).kind ≠ .module by decide +kernel, L, _, rfl, by walk_at "mem"⟩
        · obtain ⟨hk, L', kvs', hf, hm⟩ := hF P env he
          exact ⟨hk, L', kvs', hf, .tail _ (.tail _ (.tail _ (.tail _ (.tail _ (.tail _ hm)))))⟩
      refine key_call (ns := ns) (nl := nl) (c := c) (i := j + 1) (outer := nsmEnv kc L f cdv :: outer)
        (K := fun P => (C, FrameP [(Str.ofString "i", .int (recs.length : Int) t5), (Str.ofString "elem", .int ns[j] tv)]) :: (z, ZipP TI TO .none) :: (TO, TupP [.int (recs.length : Int) t5, .int ns[j] tv]) :: (ri, RIterP ((recs.length : Int) + 1) (((m + 1 : Nat) : Int) - 1) 1) :: (acc, LListP (items.map (·.1))) :: (L, FrameP [(sN, .int n tn), (sIterable, .ref tp), (sIt, .ref tp)]) :: K P)
        S (T.mono fun p hp => .tail _ (hfz' p hp)) (fun P P' => .there (.there (.there (.there (.there (.there (hK P P'))))))) D10 (by omega) hh (by omega) hfr ?_ ?_ ?_ ?_
      · exact hFr
      · intro hc e a0 h11 t11 D11
        refine comp_noted rfl hfr (hFr _) D11 (fun h12 D12 => ?_)
        refine ⟨h12, _, _, _, _, e, _, _, _, rfl, rfl, D12, fun h13 D13 => ?_⟩
        exact hcut recs j e a0 _ h13 _ (fun p hp => .tail _ (hfz' p hp)) hrun (by omega) hend hc (D13.sub ((((List.Sublist.refl _).cons _).cons _).cons _ |>.cons _) fun _ hp => hp)
      · intro hle hs e a0 rv fz6 h11 t11 hsub ha hr D11
        refine comp_noted rfl hfr (hFr _) D11 (fun h12 D12 => ?_)
        refine ⟨h12, _, _, _, _, e, _, _, _, rfl, rfl, D12, fun h13 D13 => ?_⟩
        exact hsp recs j tv e a0 rv _ h13 _ (fun p hp => hsub _ (.tail _ (hfz' p hp))) hrun (by omega) hend hle hs ha hr (D13.sub ((((List.Sublist.refl _).cons _).cons _).cons _ |>.cons _) fun _ hp => hp)
      · intro hle hs rv fz6 h11 t11 hsub hr D11
        refine args_cons ?_
        walk_at "nl"
        refine args_cons ?_
        walk_at "nl"
        refine args_nil ?_
        refine mk_tuple D11 (by show 3 ≤ sizeLine; decide) (fun tu h12 D12 => ?_)
        have D13 := (D12.perm (List.Perm.swap _ _ _)).freeze
        refine append_ D13 (.there (.there (.there (.there .here)))) ?_ (fun h14 D14 => ?_)
        · have h1 := hrun.len
          have h2 : items.length = recs.length := by have := congrArg List.length hnum; simpa [numbered] using this
          rw [List.length_map]
          unfold sizeLine
          omega
        · have D15 := D14.weak (P' := FrameP []) fun o hp => hp.sub (by intro x v e; simp [aget] at e)
          rw [show ((m + 1 : Nat) : Int) - 1 = (m : Int) by omega, show (recs.length : Int) + 1 = (((recs ++ [(ns[j], restOf ns (j + 1) ns[j])]).length : Nat) : Int) by simp,
            show items.map (·.1) ++ [Value.ref tu] = (items ++ [(Value.ref tu, (restOf ns (j + 1) ns[j], (recs.length : Int), ns[j]))]).map (·.1) by simp] at D15
          refine ⟨m, Nat.lt_succ_self _, h14, _, _, _, _, _, _, _, rfl, ?_, fun p hp => .tail _ (hsub _ (.tail _ (hfz p hp))), .snoc hend hrun hle hs, ?_, ?_, D15⟩
          · simp; omega
          · rw [numbered_snoc, List.map_append, hnum]; rfl
          · intro x hx
            rcases List.mem_append.mp hx with hx | hx
            · exact (htri x hx).mono fun p hp => .tail _ (hsub _ (.tail _ hp))
            · cases List.mem_singleton.mp hx
              exact ⟨tu, rv, t5, tv, rfl, .head _, hr.mono fun p hp => .tail _ hp⟩
    · refine next_zip_end2 hh D5 hTI5 (by omega) hlen (.there (.there (hK _ _))) (hfz' _ hnlm) (by omega) (fun h6 t6 D6 => ?_)
      have ej : j = ns.length := by omega
      refine fill_end D6 (by walk_at "ap") (fun h7 t7 D7 => ?_)
      refine wpAny_pure (wpAny_pure ?_)
      rw [ej] at hrun
      exact hok recs ns.length acc items fz5 h7 t7 hfz' hrun (by omega) (.inr rfl) hnum htri D7
end
end

section
/-! ## heaps, plainly -/
section pure
variable {α : Type} (lt : α → α → Bool)

theorem set_hole_perm {h : List α} {i j : Nat} {x v : α} (hi : i < h.length) (hne : i ≠ j) (hv : h[j]? = some v) : ((h.set i v).set j x).Perm (h.set i x) := by
  obtain ⟨hj, rfl⟩ := List.getElem?_eq_some_iff.mp hv
  have := List.set_set_perm (as := h.set i x) (i := i) (j := j) (by simpa using hi) (by simpa using hj)
  rw [List.getElem_set_self, List.getElem_set_ne hne, List.set_set] at this
  exact this

theorem supp_perm (x : α) : ∀ (f pos : Nat) (h : List α), pos < h.length → ((supp lt f pos h).2.set (supp lt f pos h).1 x).Perm (h.set pos x)
  | 0, _, _, _ => List.Perm.refl _
  | f + 1, pos, h, hp => by
    rw [supp]
    by_cases q : 2 * pos + 1 < h.length
    · rw [if_pos q]
      have b := bigger_bound lt q
      rw [List.getElem?_eq_getElem b.2.1]
      dsimp only
      refine (supp_perm x f _ _ (by rw [List.length_set]; exact b.2.1)).trans ?_
      exact set_hole_perm hp (by omega) (List.getElem?_eq_getElem b.2.1)
    · rw [if_neg q]
theorem sdown_perm (s : Nat) (x : α) : ∀ (f pos : Nat) (h : List α), pos < h.length → (sdown lt s x f pos h).Perm (h.set pos x)
  | 0, _, _, _ => List.Perm.refl _
  | f + 1, pos, h, hp => by
    rw [sdown]
    by_cases q : s < pos
    · rw [if_pos q]
      have hq : (pos - 1) / 2 < h.length := by omega
      rw [List.getElem?_eq_getElem hq]
      dsimp only
      split
      · refine (sdown_perm s x f _ _ (by rw [List.length_set]; exact hq)).trans ?_
        exact set_hole_perm hp (by omega) (List.getElem?_eq_getElem hq)
      · exact List.Perm.refl _
    · rw [if_neg q]
theorem siftup_perm (pos : Nat) (h : List α) : (siftup lt pos h).Perm h := by
  unfold siftup
  cases hx : h[pos]? with
  | none => exact List.Perm.refl _
  | some x =>
    dsimp only
    obtain ⟨hp, rfl⟩ := List.getElem?_eq_some_iff.mp hx
    have hb := supp_bound lt (h.length - pos) pos h hp
    refine (sdown_perm lt pos _ _ _ _ (by rw [List.length_set, supp_length]; exact hb)).trans ?_
    rw [List.set_set]
    refine (supp_perm lt _ _ _ _ hp).trans ?_
    rw [List.set_getElem_self]
theorem hfy_perm : ∀ (k : Nat) (h : List α), (hfy lt k h).Perm h
  | 0, _ => List.Perm.refl _
  | k + 1, h => (hfy_perm k _).trans (siftup_perm lt k h)

/-- below each place from s on, nothing greater -/
def HeapFrom (s : Nat) (h : List α) : Prop := ∀ c p (hc : c < h.length) (hp : p < h.length), (c = 2 * p + 1 ∨ c = 2 * p + 2) → s ≤ p → lt h[p] h[c] = false
inductive Sub (s : Nat) : Nat → Prop
  | refl : Sub s s
  | left {p : Nat} : Sub s p → Sub s (2 * p + 1)
  | right {p : Nat} : Sub s p → Sub s (2 * p + 2)
theorem Sub.le {s p : Nat} (x : Sub s p) : s ≤ p := by
  induction x with
  | refl => exact Nat.le_refl _
  | left _ ih => omega
  | right _ ih => omega
theorem Sub.par {s p : Nat} (x : Sub s p) (hne : p ≠ s) : Sub s ((p - 1) / 2) ∧ (p = 2 * ((p - 1) / 2) + 1 ∨ p = 2 * ((p - 1) / 2) + 2) := by
  cases x with
  | refl => exact absurd rfl hne
  | @left p x => rw [show (2 * p + 1 - 1) / 2 = p by omega]; exact ⟨x, .inl rfl⟩
  | @right p x => rw [show (2 * p + 2 - 1) / 2 = p by omega]; exact ⟨x, .inr rfl⟩

variable (tr : ∀ a b c, lt b a = false → lt c b = false → lt c a = false) (asy : ∀ a b, lt a b = true → lt b a = false)

/-- with a hole at p -/
structure Hole (s p : Nat) (h : List α) : Prop where
  sub : Sub s p
  inb : p < h.length
  i1 : ∀ c q (hc : c < h.length) (hq : q < h.length), (c = 2 * q + 1 ∨ c = 2 * q + 2) → s ≤ q → c ≠ p → q ≠ p → lt h[q] h[c] = false
  i2 : ∀ c q (hc : c < h.length) (hq : q < h.length), (c = 2 * p + 1 ∨ c = 2 * p + 2) → (p = 2 * q + 1 ∨ p = 2 * q + 2) → s ≤ q → lt h[q] h[c] = false
include tr asy

theorem bigger_max {h : List α} {c : Nat} (hc : c < h.length) (c' : Nat) (hc' : c' < h.length) (h1 : c' = c ∨ c' = c + 1) : lt (h[bigger lt h c]'(bigger_bound lt hc).2.1) h[c'] = false := by
  have irr : ∀ a, lt a a = false := fun a => by
    cases q : lt a a with
    | false => rfl
    | true => rw [asy a a q] at q; cases q
  have b := (bigger_bound lt hc).2.1
  unfold bigger at b ⊢
  by_cases q : c + 1 < h.length
  · simp only [List.getElem?_eq_getElem q, List.getElem?_eq_getElem hc] at b ⊢
    by_cases z : lt h[c + 1] h[c] = true
    · simp only [z, if_true] at b ⊢
      rcases h1 with rfl | rfl
      · exact irr _
      · exact asy _ _ z
    · simp only [z] at b ⊢
      rcases h1 with rfl | rfl
      · simpa using z
      · exact irr _
  · have e : c' = c := by omega
    subst e
    simp only [List.getElem?_eq_none (Nat.le_of_not_lt q)] at b ⊢
    exact irr _

theorem supp_hole (s : Nat) : ∀ (f p : Nat) (h : List α), h.length - p ≤ f → Hole lt s p h → Hole lt s (supp lt f p h).1 (supp lt f p h).2 ∧ (supp lt f p h).2.length ≤ 2 * (supp lt f p h).1 + 1
  | 0, p, h, hf, H => ⟨H, by have := H.inb; show h.length ≤ 2 * p + 1; omega⟩
  | f + 1, p, h, hf, H => by
    rw [supp]
    by_cases q : 2 * p + 1 < h.length
    · rw [if_pos q]
      have b := bigger_bound lt q
      have bm := bigger_max lt tr asy q
      rw [List.getElem?_eq_getElem b.2.1]
      dsimp only
      have hsl := H.sub.le
      have key : ∀ m (hb : 2 * p + 1 ≤ m ∧ m < h.length ∧ m ≤ 2 * p + 1 + 1), (∀ c' (hc' : c' < h.length), c' = 2 * p + 1 ∨ c' = 2 * p + 1 + 1 → lt (h[m]'hb.2.1) h[c'] = false) → Hole lt s m (h.set p (h[m]'hb.2.1)) := by
        intro m b bm
        refine ⟨?_, by rw [List.length_set]; exact b.2.1, ?_, ?_⟩
        · rcases (show m = 2 * p + 1 ∨ m = 2 * p + 2 by omega) with e | e
          · rw [e]; exact H.sub.left
          · rw [e]; exact H.sub.right
        · intro c r hc hr hcr hsr hcm hrm
          have hc' : c < h.length := by simpa using hc
          have hr' : r < h.length := by simpa using hr
          by_cases e1 : r = p
          · subst e1
            rw [List.getElem_set_self, List.getElem_set_ne (by omega)]
            exact bm c hc' (by omega)
          · by_cases e2 : c = p
            · subst e2
              rw [List.getElem_set_self, List.getElem_set_ne (by omega)]
              exact H.i2 m r b.2.1 hr' (by omega) hcr hsr
            · rw [List.getElem_set_ne (by omega), List.getElem_set_ne (by omega)]
              exact H.i1 c r hc' hr' hcr hsr e2 e1
        · intro c r hc hr hcm hmr hsr
          have hc' : c < h.length := by simpa using hc
          have e : r = p := by omega
          subst e
          rw [List.getElem_set_self, List.getElem_set_ne (by omega)]
          exact H.i1 c m hc' b.2.1 hcm (by omega) (by omega) (by omega)
      exact supp_hole s f _ _ (by rw [List.length_set]; omega) (key _ b bm)
    · rw [if_neg q]
      exact ⟨H, by show h.length ≤ 2 * p + 1; omega⟩

theorem sdown_heap (s : Nat) (new : α) : ∀ (f p : Nat) (h : List α), p ≤ f → Hole lt s p h → (∀ c (hc : c < h.length), (c = 2 * p + 1 ∨ c = 2 * p + 2) → lt new h[c] = false) → HeapFrom lt s (sdown lt s new f p h)
  | f, p, h, hf, H, h3 => by
    have stop : (p = s ∨ ∀ q (hq : q < h.length), (p = 2 * q + 1 ∨ p = 2 * q + 2) → s ≤ q → lt h[q] new = false) → HeapFrom lt s (h.set p new) := by
      intro hs c r hc hr hcr hsr
      have hpl := H.inb
      have hc' : c < h.length := by simpa using hc
      have hr' : r < h.length := by simpa using hr
      by_cases e1 : r = p
      · subst e1
        rw [List.getElem_set_self, List.getElem_set_ne (by omega)]
        exact h3 c hc' hcr
      · by_cases e2 : c = p
        · subst e2
          rw [List.getElem_set_self, List.getElem_set_ne (by omega)]
          rcases hs with rfl | hs
          · omega
          · exact hs r hr' hcr hsr
        · rw [List.getElem_set_ne (by omega), List.getElem_set_ne (by omega)]
          exact H.i1 c r hc' hr' hcr hsr e2 e1
    have hsl := H.sub.le
    have hpl := H.inb
    cases f with
    | zero =>
      rw [sdown]
      exact stop (.inl (by omega))
    | succ f =>
      rw [sdown]
      by_cases q : s < p
      · rw [if_pos q]
        have hq : (p - 1) / 2 < h.length := by omega
        obtain ⟨hsub, hpq⟩ := H.sub.par (by omega)
        have hsq := hsub.le
        rw [List.getElem?_eq_getElem hq]
        dsimp only
        generalize hm : (p - 1) / 2 = m at hq hsub hpq hsq ⊢
        by_cases z : lt h[m] new = true
        · rw [if_pos z]
          refine sdown_heap s new f m (h.set p h[m]) (by omega) ⟨hsub, by rw [List.length_set]; exact hq, ?_, ?_⟩ ?_
          · intro c r hc hr hcr hsr hcm hrm
            have hc' : c < h.length := by simpa using hc
            have hr' : r < h.length := by simpa using hr
            by_cases e1 : r = p
            · subst e1
              rw [List.getElem_set_self, List.getElem_set_ne (by omega)]
              exact H.i2 c m hc' hq hcr hpq hsq
            · by_cases e2 : c = p
              · omega
              · rw [List.getElem_set_ne (by omega), List.getElem_set_ne (by omega)]
                exact H.i1 c r hc' hr' hcr hsr e2 e1
          · intro c r hc hr hcm hmr hsr
            have hc' : c < h.length := by simpa using hc
            have hr' : r < h.length := by simpa using hr
            have k1 : lt (h[r]'hr') h[m] = false := H.i1 m r hq hr' hmr hsr (by omega) (by omega)
            rw [List.getElem_set_ne (show p ≠ r by omega)]
            by_cases e : c = p
            · subst e
              rw [List.getElem_set_self]
              exact k1
            · rw [List.getElem_set_ne (by omega)]
              exact tr _ _ _ (H.i1 c m hc' hq hcm hsq e (by omega)) k1
          · intro c hc hcm
            have hc' : c < h.length := by simpa using hc
            by_cases e : c = p
            · subst e
              rw [List.getElem_set_self]
              exact asy _ _ z
            · rw [List.getElem_set_ne (by omega)]
              exact tr _ _ _ (H.i1 c m hc' hq hcm hsq e (by omega)) (asy _ _ z)
        · rw [if_neg z]
          refine stop (.inr fun r hr hpr hsr => ?_)
          have : r = m := by omega
          subst this
          simpa using z
      · rw [if_neg q]
        exact stop (.inl (by omega))
termination_by f => f

theorem siftup_heap {s : Nat} {h : List α} (H : HeapFrom lt (s + 1) h) : HeapFrom lt s (siftup lt s h) := by
  unfold siftup
  cases hx : h[s]? with
  | none =>
    have hn := List.getElem?_eq_none_iff.mp hx
    show HeapFrom lt s h
    intro c p hc hp hcp hsp
    omega
  | some x =>
    dsimp only
    obtain ⟨hp, rfl⟩ := List.getElem?_eq_some_iff.mp hx
    have H0 : Hole lt s s h := ⟨.refl, hp, fun c q hc hq hcq hsq h1 h2 => H c q hc hq hcq (by omega), fun c q hc hq hcp hpq hsq => by omega⟩
    obtain ⟨H1, hl⟩ := supp_hole lt tr asy s (h.length - s) s h (Nat.le_refl _) H0
    generalize supp lt (h.length - s) s h = r at H1 hl
    have hsl := H1.sub.le
    have hpl := H1.inb
    refine sdown_heap lt tr asy s _ r.1 r.1 _ (Nat.le_refl _) ⟨H1.sub, by rw [List.length_set]; exact hpl, ?_, ?_⟩ ?_
    · intro c q hc hq hcq hsq h1 h2
      have hc' : c < r.2.length := by simpa using hc
      have hq' : q < r.2.length := by simpa using hq
      rw [List.getElem_set_ne (by omega), List.getElem_set_ne (by omega)]
      exact H1.i1 c q hc' hq' hcq hsq h1 h2
    · intro c q hc hq hcp hpq hsq
      have hc' : c < r.2.length := by simpa using hc
      have hq' : q < r.2.length := by simpa using hq
      omega
    · intro c hc hcp
      have hc' : c < r.2.length := by simpa using hc
      omega
theorem hfy_heap : ∀ (k : Nat) (h : List α), HeapFrom lt k h → HeapFrom lt 0 (hfy lt k h)
  | 0, _, H => H
  | k + 1, h, H => hfy_heap k _ (siftup_heap lt tr asy H)
theorem hfy_heap0 (h : List α) : HeapFrom lt 0 (hfy lt (h.length / 2) h) := hfy_heap lt tr asy _ _ fun c p hc hp hcp hs => by omega
theorem heap_root {h : List α} (H : HeapFrom lt 0 h) (h0 : 0 < h.length) : ∀ (c : Nat) (hc : c < h.length), lt h[0] h[c] = false := by
  have irr : ∀ a, lt a a = false := fun a => by
    cases q : lt a a with
    | false => rfl
    | true => rw [asy a a q] at q; cases q
  intro c
  induction c using Nat.strongRecOn with
  | ind c ih =>
    intro hc
    by_cases e : c = 0
    · subst e; exact irr _
    · have hp : (c - 1) / 2 < h.length := by omega
      exact tr _ _ _ (H c ((c - 1) / 2) hc hp (by omega) (Nat.zero_le _)) (ih _ (by omega) hp)
theorem repl_heap {h : List α} (H : HeapFrom lt 0 h) (x : α) : HeapFrom lt 0 (siftup lt 0 (h.set 0 x)) := by
  refine siftup_heap lt tr asy fun c p hc hp hcp hsp => ?_
  have hc' : c < h.length := by simpa using hc
  have hp' : p < h.length := by simpa using hp
  rw [List.getElem_set_ne (by omega), List.getElem_set_ne (by omega)]
  exact H c p hc' hp' hcp (Nat.zero_le _)
end pure
end

section
/-! ## list.sort below 64 items, all of them different -/
set_option linter.unusedSectionVars false
section
variable {n : Nat} (f : Nat → Nat → Bool)
def PermN (n : Nat) (p : Array Nat) : Prop := p.toList.Perm (List.range n)
def VA (p : Array Nat) (k : Nat) : Nat := p.getD k 0
/-- rising on a-1 .. r-1 -/
def Asc (p : Array Nat) (a r : Nat) : Prop := ∀ k, a ≤ k → k < r → f (VA p (k - 1)) (VA p k) = true
def Desc (p : Array Nat) (r : Nat) : Prop := ∀ k, 1 ≤ k → k < r → f (VA p k) (VA p (k - 1)) = true

variable {f}
theorem VA_q (p : Array Nat) (k : Nat) : VA p k = (p[k]?).getD 0 := by
  unfold VA; exact Array.getD_eq_getD_getElem? ..
theorem PermN.size {p : Array Nat} (h : PermN n p) : p.size = n := by
  have := h.length_eq
  simpa using this
theorem PermN.lt {p : Array Nat} (h : PermN n p) (hn : 0 < n) (k : Nat) : VA p k < n := by
  rw [VA_q]
  cases q : p[k]? with
  | none => exact hn
  | some x =>
    have hx : x ∈ p.toList := by rw [Array.mem_toList_iff]; exact Array.mem_of_getElem? q
    exact List.mem_range.mp (h.mem_iff.mp hx)
theorem PermN.inj {p : Array Nat} (h : PermN n p) {a b : Nat} (ha : a < n) (hb : b < n) (e : VA p a = VA p b) : a = b := by
  have hs := h.size
  have nd : p.toList.Nodup := h.nodup_iff.mpr List.nodup_range
  rw [VA_q, VA_q, Array.getElem?_eq_getElem (by omega), Array.getElem?_eq_getElem (by omega)] at e
  simp only [Option.getD_some] at e
  have ha' : a < p.toList.length := by simpa [hs] using ha
  have hb' : b < p.toList.length := by simpa [hs] using hb
  have e' : p.toList[a] = p.toList[b] := by simpa using e
  have pw := List.pairwise_iff_getElem.mp nd
  rcases Nat.lt_trichotomy a b with h1 | h1 | h1
  · exact absurd e' (pw a b ha' hb' h1)
  · exact h1
  · exact absurd e'.symm (pw b a hb' ha' h1)
theorem PermN.of {p q : Array Nat} (h : PermN n p) (x : q.Perm p) : PermN n q := (Array.perm_iff_toList_perm.mp x).trans h

variable (irr : ∀ i, f i i = false) (tr : ∀ i j k, f i j = true → f j k = true → f i k = true) (tot : ∀ i j, i < n → j < n → i ≠ j → f i j = false → f j i = true)
include tr
theorem Asc.all {p : Array Nat} {r : Nat} (h : Asc f p 1 r) {a b : Nat} (hab : a < b) (hb : b < r) : f (VA p a) (VA p b) = true := by
  obtain ⟨d, rfl⟩ : ∃ d, b = a + 1 + d := ⟨b - (a + 1), by omega⟩
  clear hab
  induction d with
  | zero => exact h (a + 1) (by omega) (by omega)
  | succ d ih => exact tr _ _ _ (ih (by omega)) (h (a + 1 + (d + 1)) (by omega) hb)
omit tr

variable {cmp : Nat → Nat → (Bool → Shared → Prop) → Shared → Prop} {s : Shared} (hcmp : ∀ i j C, i < n → j < n → C (f i j) s → cmp i j C s)
include irr tot hcmp

theorem asc_wp {p : Array Nat} (hp : PermN n p) {G : Nat → Shared → Prop} : ∀ (fuel m : Nat), 1 ≤ m → m + fuel ≤ n → m ≤ n → (∀ r, m ≤ r → r ≤ m + fuel → Asc f p m r → (r < m + fuel → f (VA p r) (VA p (r - 1)) = true) → G r s) → (kas_asc p fuel m).kasWp cmp G s
  | 0, m, h1, _, _, hG => hG m (Nat.le_refl _) (Nat.le_refl _) (fun k a b => by omega) (fun h => by omega)
  | fuel + 1, m, h1, h2, h3, hG => by
    refine hcmp _ _ _ (hp.lt (by omega) m) (hp.lt (by omega) (m - 1)) ?_
    cases q : f (p.getD m 0) (p.getD (m - 1) 0) with
    | true =>
      simp only [if_true]
      exact hG m (Nat.le_refl _) (by omega) (fun k a b => by omega) (fun _ => q)
    | false =>
      simp only [Bool.false_eq_true, if_false]
      refine asc_wp hp fuel (m + 1) (by omega) (by omega) (by omega) fun r a b c d => hG r (by omega) (by omega) (fun k k1 k2 => ?_) (fun h => d (by omega))
      by_cases e : k = m
      · subst e
        exact tot _ _ (hp.lt (by omega) k) (hp.lt (by omega) (k - 1)) (fun e => by have := hp.inj (by omega) (by omega) e; omega) q
      · exact c k (by omega) k2

theorem desc_wp {p : Array Nat} (hp : PermN n p) {G : Array Nat × Nat × Nat → Shared → Prop} : ∀ (fuel m : Nat), 1 ≤ m → m + fuel ≤ n → Desc f p m → (∀ r, m ≤ r → r ≤ m + fuel → Desc f p r → G (p, r, 0) s) → (kas_desc fuel p m 0).kasWp cmp G s
  | 0, m, h1, _, h3, hG => hG m (Nat.le_refl _) (Nat.le_refl _) h3
  | fuel + 1, m, h1, h2, h3, hG => by
    refine hcmp _ _ _ (hp.lt (by omega) m) (hp.lt (by omega) (m - 1)) ?_
    cases q : f (p.getD m 0) (p.getD (m - 1) 0) with
    | true =>
      simp only [if_true, Nat.lt_irrefl, gt_iff_lt, if_false]
      refine desc_wp hp fuel (m + 1) (by omega) (by omega) (fun k k1 k2 => ?_) fun r a b c => hG r (by omega) (by omega) c
      by_cases e : k = m
      · subst e; exact q
      · exact h3 k k1 (by omega)
    | false =>
      simp only [Bool.false_eq_true, if_false]
      refine hcmp _ _ _ (hp.lt (by omega) (m - 1)) (hp.lt (by omega) m) ?_
      have q2 : f (p.getD (m - 1) 0) (p.getD m 0) = true := tot _ _ (hp.lt (by omega) m) (hp.lt (by omega) (m - 1)) (fun e => by have := hp.inj (by omega) (by omega) e; omega) q
      rw [q2]
      simp only [if_true]
      exact hG m (Nat.le_refl _) (by omega) h3

include tr
theorem count_wp {p : Array Nat} (hp : PermN n p) (h2 : 2 ≤ n) {G : Nat × Array Nat → Shared → Prop} (hG : ∀ r p', 1 ≤ r → r ≤ n → PermN n p' → Asc f p' 1 r → G (r, p') s) : (kas_count n p).kasWp cmp G s := by
  unfold kas_count
  rw [KasT.kasWp_bind]
  refine asc_wp irr tot hcmp hp (n - 1) 1 (Nat.le_refl _) (by omega) (by omega) fun r h1 hr ha hb => ?_
  by_cases e : r = n
  · subst e
    simp only [beq_self_eq_true, if_true]
    exact hG r p h1 (Nat.le_refl _) hp ha
  · rw [if_neg (by simpa using e)]
    by_cases e1 : r > 1
    · rw [if_pos e1]
      refine hcmp _ _ _ (hp.lt (by omega) 0) (hp.lt (by omega) (r - 1)) ?_
      rw [show f (p.getD 0 0) (p.getD (r - 1) 0) = true from Asc.all tr ha (by omega) (by omega)]
      simp only [if_true]
      exact hG r p h1 (by omega) hp ha
    · rw [if_neg e1]
      have er : r = 1 := by omega
      subst er
      unfold kas_descPart
      rw [KasT.kasWp_bind]
      refine desc_wp irr tot hcmp hp (n - (1 + 1)) (1 + 1) (by omega) (by omega) (fun k k1 k2 => ?_) fun m hm1 hm2 hd => ?_
      · have : k = 1 := by omega
        subst this
        exact hb (by omega)
      · simp only [gt_iff_lt, Nat.lt_irrefl, if_false]
        unfold kas_tail3
        rw [KasT.kasWp_bind]
        have hs := hp.size
        have hp' : PermN n (kas_rev p 0 m) := hp.of (mirror_perm _ _ _ _)
        have hv : ∀ k, VA (kas_rev p 0 m) k = if k < m then VA p (m - 1 - k) else VA p k := by
          intro k
          rw [VA_q]
          unfold kas_rev
          rw [getElem?_mirror_all (by omega)]
          by_cases q : k < m
          · rw [if_pos ⟨Nat.zero_le _, q⟩, if_pos q, VA_q, show 0 + m - 1 - k = m - 1 - k by omega]
          · rw [if_neg (by omega), if_neg q, VA_q]
        refine asc_wp irr tot hcmp hp' (n - m) m (by omega) (by omega) (by omega) fun r' a b c _ => ?_
        refine hG r' _ (by omega) (by omega) hp' fun k k1 k2 => ?_
        by_cases q : k < m
        · rw [hv, hv, if_pos q, if_pos (by omega)]
          have := hd (m - 1 - (k - 1)) (by omega) (by omega)
          rw [show m - 1 - (k - 1) - 1 = m - 1 - k by omega] at this
          exact this
        · exact c k (by omega) k2

theorem place_wp {p : Array Nat} (hp : PermN n p) {k : Nat} (hk : k < n) {G : Nat → Shared → Prop} : ∀ (fuel l r : Nat), l ≤ r → r ≤ k → r - l ≤ fuel → (∀ i, i < l → f (VA p i) (VA p k) = true) → (∀ i, r ≤ i → i < k → f (VA p k) (VA p i) = true) → Asc f p 1 k →
    (∀ m, m ≤ k → (∀ i, i < m → f (VA p i) (VA p k) = true) → (∀ i, m ≤ i → i < k → f (VA p k) (VA p i) = true) → G m s) → (kas_place p k fuel l r).kasWp cmp G s
  | 0, l, r, h1, h2, h3, h4, h5, h6, hG => hG l (by omega) h4 fun i a b => h5 i (by omega) b
  | fuel + 1, l, r, h1, h2, h3, h4, h5, h6, hG => by
    rw [kas_place]
    by_cases q : l ≥ r
    · rw [if_pos q]
      exact hG l (by omega) h4 fun i a b => h5 i (by omega) b
    · rw [if_neg q]
      refine hcmp _ _ _ (hp.lt (by omega) k) (hp.lt (by omega) ((l + r) / 2)) ?_
      cases z : f (p.getD k 0) (p.getD ((l + r) / 2) 0) with
      | true =>
        simp only [if_true]
        refine place_wp hp hk fuel l ((l + r) / 2) (by omega) (by omega) (by omega) h4 (fun i a b => ?_) h6 hG
        by_cases e : i = (l + r) / 2
        · subst e; exact z
        · exact tr _ _ _ z (Asc.all tr h6 (by omega) b)
      | false =>
        simp only [Bool.false_eq_true, if_false]
        have z' : f (VA p ((l + r) / 2)) (VA p k) = true := tot _ _ (hp.lt (by omega) k) (hp.lt (by omega) ((l + r) / 2)) (fun e => by have := hp.inj (by omega) (by omega) e; omega) z
        refine place_wp hp hk fuel ((l + r) / 2 + 1) r (by omega) h2 (by omega) (fun i a => ?_) h5 h6 hG
        by_cases e : i = (l + r) / 2
        · subst e; exact z'
        · exact tr _ _ _ (Asc.all tr h6 (show i < (l + r) / 2 by omega) (by omega)) z'

theorem bin_wp {G : Array Nat → Shared → Prop} (hG : ∀ p, PermN n p → Asc f p 1 n → G p s) : ∀ (fuel : Nat) (p : Array Nat) (k : Nat), PermN n p → 1 ≤ k → k + fuel = n → Asc f p 1 k → (kas_bin fuel p k).kasWp cmp G s
  | 0, p, k, hp, h1, h2, h3 => hG p hp (by rw [show n = k by omega]; exact h3)
  | fuel + 1, p, k, hp, h1, h2, h3 => by
    rw [kas_bin, KasT.kasWp_bind]
    refine place_wp irr tr tot hcmp hp (by omega) k 0 k (Nat.zero_le _) (Nat.le_refl _) (Nat.le_refl _) (fun i a => by omega) (fun i a b => by omega) h3 fun l hl ha hb => ?_
    have hs := hp.size
    have hv : ∀ m, VA (bubble p k (k - l)) m = if m = l then VA p k else if l < m ∧ m ≤ k then VA p (m - 1) else VA p m := by
      intro m
      rw [VA_q, getElem?_bubble (by omega) _ (by omega), show k - (k - l) = l by omega]
      repeat' split
      all_goals rw [VA_q]
    refine bin_wp hG fuel _ (k + 1) (hp.of (bubble_perm _ _ _)) (by omega) (by omega) fun m m1 m2 => ?_
    rw [hv, hv]
    by_cases e1 : m = l
    · rw [if_pos e1, if_neg (by omega), if_neg (by omega)]
      exact ha _ (by omega)
    · rw [if_neg e1]
      by_cases e2 : l < m
      · rw [if_pos (show l < m ∧ m ≤ k by omega)]
        by_cases e3 : m - 1 = l
        · rw [if_pos e3]
          exact hb _ (by omega) (by omega)
        · rw [if_neg e3, if_pos (show l < m - 1 ∧ m - 1 ≤ k by omega)]
          exact h3 (m - 1) (by omega) (by omega)
      · rw [if_neg (by omega), if_neg (by omega), if_neg (by omega)]
        exact h3 m m1 (by omega)

theorem sort_wp (h2 : 2 ≤ n) {G : Array Nat → Shared → Prop} (hG : ∀ p, PermN n p → Asc f p 1 n → G p s) : (kas_sort n).kasWp cmp G s := by
  unfold kas_sort
  rw [KasT.kasWp_bind]
  refine count_wp irr tr tot hcmp (by simp [PermN]) h2 fun r p h1 hr hp ha => ?_
  by_cases q : r < n
  · rw [if_pos q, show max r 1 = r by omega]
    exact bin_wp irr tr tot hcmp hG (n - r) p r hp h1 (by omega) ha
  · rw [if_neg q]
    exact hG p hp (by rw [show n = r by omega]; exact ha)
end
end

section
/-! ## result.sort() -/
theorem ilt_irr : ∀ x, ilt x x = false
  | [] => rfl
  | a :: x => by rw [ilt, if_pos rfl]; exact ilt_irr x
theorem ilt_trans : ∀ {x y z : List Int}, ilt x y = true → ilt y z = true → ilt x z = true
  | [], [], _, h, _ => nomatch h
  | [], _ :: _, [], _, h => nomatch h
  | [], _ :: _, _ :: _, _, _ => rfl
  | _ :: _, [], _, h, _ => nomatch h
  | _ :: _, _ :: _, [], _, h => nomatch h
  | a :: x, b :: y, c :: z, h1, h2 => by
    rw [ilt] at h1 h2 ⊢
    by_cases e1 : a = b
    · subst e1
      rw [if_pos rfl] at h1
      by_cases e2 : a = c
      · subst e2
        rw [if_pos rfl] at h2 ⊢
        exact ilt_trans h1 h2
      · rw [if_neg e2] at h2 ⊢; exact h2
    · rw [if_neg e1] at h1
      have h1' : a < b := by simpa using h1
      by_cases e2 : b = c
      · subst e2; rw [if_neg e1]; exact h1
      · rw [if_neg e2] at h2
        have h2' : b < c := by simpa using h2
        rw [if_neg (by omega)]
        exact decide_eq_true (by omega)
theorem ilt_total : ∀ {x y : List Int}, ilt x y = false → ilt y x = false → x = y
  | [], [], _, _ => rfl
  | [], _ :: _, h, _ => nomatch h
  | _ :: _, [], _, h => nomatch h
  | a :: x, b :: y, h1, h2 => by
    rw [ilt] at h1 h2
    by_cases e : a = b
    · subst e
      rw [if_pos rfl] at h1 h2
      rw [ilt_total h1 h2]
    · rw [if_neg e] at h1
      rw [if_neg (Ne.symm e)] at h2
      have a1 : ¬ a < b := by simpa using h1
      have a2 : ¬ b < a := by simpa using h2
      omega
theorem ilt_asy {x y : List Int} (h : ilt x y = true) : ilt y x = false := by
  cases q : ilt y x with
  | false => rfl
  | true => have := ilt_trans h q; rw [ilt_irr] at this; cases this
theorem ilt_trn {x y z : List Int} (h1 : ilt y x = false) (h2 : ilt z y = false) : ilt z x = false := by
  cases q : ilt z x with
  | false => rfl
  | true =>
    cases q2 : ilt y z with
    | true => have := ilt_trans q2 q; rw [h1] at this; cases this
    | false => rw [ilt_total h2 q2] at q; rw [h1] at q; cases q

theorem tlt_eq (x y : Tri) : tlt x y = true ↔ (ilt x.1 y.1 = true ∨ (x.1 = y.1 ∧ (x.2.1 < y.2.1 ∨ (x.2.1 = y.2.1 ∧ x.2.2 < y.2.2)))) := by
  unfold tlt
  by_cases e : x.1 = y.1
  · rw [e]
    simp only [decide_true, if_true, ilt_irr, Bool.false_eq_true, false_or, true_and]
    by_cases e2 : x.2.1 = y.2.1
    · simp only [e2, beq_self_eq_true, if_true, Int.lt_irrefl, false_or, true_and]
      by_cases e3 : x.2.2 = y.2.2
      · simp [e3]
      · simp [e3]
    · simp [e2]
  · simp [e]
theorem tlt_irr (x : Tri) : tlt x x = false := by
  cases q : tlt x x with
  | false => rfl
  | true =>
    rcases (tlt_eq x x).mp q with h | ⟨_, h | ⟨_, h⟩⟩
    · rw [ilt_irr] at h; cases h
    · omega
    · omega
theorem tlt_trans {x y z : Tri} (h1 : tlt x y = true) (h2 : tlt y z = true) : tlt x z = true := by
  rw [tlt_eq] at h1 h2 ⊢
  rcases h1 with h1 | ⟨e1, h1⟩
  · rcases h2 with h2 | ⟨e2, h2⟩
    · exact .inl (ilt_trans h1 h2)
    · rw [← e2]; exact .inl h1
  · rw [e1]
    rcases h2 with h2 | ⟨e2, h2⟩
    · exact .inl h2
    · exact .inr ⟨e2, by omega⟩
theorem tlt_total {x y : Tri} (h1 : tlt x y = false) (h2 : tlt y x = false) : x = y := by
  have n1 : ¬ tlt x y = true := by rw [h1]; simp
  have n2 : ¬ tlt y x = true := by rw [h2]; simp
  rw [tlt_eq] at n1 n2
  have e : x.1 = y.1 := ilt_total (by cases q : ilt x.1 y.1 with | false => rfl | true => exact absurd (.inl q) n1) (by cases q : ilt y.1 x.1 with | false => rfl | true => exact absurd (.inl q) n2)
  have a1 : ¬ (x.2.1 < y.2.1 ∨ (x.2.1 = y.2.1 ∧ x.2.2 < y.2.2)) := fun h => n1 (.inr ⟨e, h⟩)
  have a2 : ¬ (y.2.1 < x.2.1 ∨ (y.2.1 = x.2.1 ∧ y.2.2 < x.2.2)) := fun h => n2 (.inr ⟨e.symm, h⟩)
  exact Prod.ext e (Prod.ext (by omega) (by omega))
theorem tlt_asy {x y : Tri} (h : tlt x y = true) : tlt y x = false := by
  cases q : tlt y x with
  | false => rfl
  | true => have := tlt_trans h q; rw [tlt_irr] at this; cases this
theorem tlt_trn {x y z : Tri} (h1 : tlt y x = false) (h2 : tlt z y = false) : tlt z x = false := by
  cases q : tlt z x with
  | false => rfl
  | true =>
    cases q2 : tlt y z with
    | true => have := tlt_trans q2 q; rw [h1] at this; cases this
    | false => rw [tlt_total h2 q2] at q; rw [h1] at q; cases q

section
variable {prog : Program} {w : World} {A : Around} {E : Value → Shared → Prop} {B h : Heap} {live fz : List Ent} {g : Array GenState} {d : Drawn} {t : Nat} {os : OsState}

theorem oneLt_lists {s : Shared} {l b : Addr} {xs ys : List Value} {ns ms : List Int} {Q : Bool → Shared → Prop} (hl : s.heap.IsList l xs.toArray) (hb : s.heap.IsList b ys.toArray) (hx : IntsAre xs ns) (hy : IntsAre ys ms) (hu : A.units < cLine) (hq : Q (ilt ns ms) s) :
    wpAny (model prog w) A (oneLt' true (.ref l) (.ref b)) Q E s := by
  refine cps fun PP kk => ?_
  obtain ⟨⟨cls, dd, data, sl⟩, ho, hc, n, hd⟩ := id hl
  obtain ⟨⟨cls2, dd2, data2, sl2⟩, ho2, hc2, n2, hd2⟩ := id hb
  refine kk ?_
  clear kk PP
  simp only at hc hd hc2 hd2
  subst hc hd hc2 hd2
  rw [oneLt'_eq]
  simp only [if_true]
  refine wpAny_bind (wpAny_cRoomFor hu ?_)
  refine wpAny_bind (wpAny_callSpecialIfBound?_slot (name := Str.ofString "__lt__") (T := "list") ⟨_, ho, rfl⟩ F.slot_list_lt (call_meets F.slot_list_lt ⟨_, ho, rfl⟩ F.entry_list_lt (F.args_list_lt_2 _ _) (list_ltAt l b xs ys ns ms n n2 dd dd2 sl sl2 hx hy) ⟨ho, ho2, ?_⟩))
  exact wpAny_truthy_bool hq

theorem keyLt_tri {v u : Value} {x y : Tri} {Q : Bool → Shared → Prop} (D : Led B h live fz) (hx : IsTri fz v x) (hy : IsTri fz u y) (hu : A.units < cLine) (hq : Q (tlt x y) ⟨h, g, d, t, os⟩) :
    wpAny (model prog w) A (keyLt' (tuples' true) v u) Q E ⟨h, g, d, t, os⟩ := by
  refine cps fun PP kk => ?_
  obtain ⟨a, kv, ot, et, rfl, ma, ka⟩ := hx
  obtain ⟨b, ku, ot', et', rfl, mb, kb⟩ := hy
  obtain ⟨oa, hoa, rfl⟩ := D.rf ma
  obtain ⟨ob, hob, rfl⟩ := D.rf mb
  refine kk ?_
  clear kk PP
  refine kat_lt (s := ⟨h, g, d, t, os⟩) hoa rfl hob rfl ?_
  have ek := eqAt_ints (A := A) (g := g) (d := d) (t := t) (os := os) D ka kb hu
  refine kat_cons (ek _ _ _ _ ?_)
  unfold tlt at hq
  by_cases e : x.1 = y.1
  · rw [decide_eq_true e] at hq ⊢
    simp only [if_true] at hq
    refine kat_yes (kat_cons (eqAt_int _ _ _ _ ?_))
    by_cases e2 : x.2.1 = y.2.1
    · rw [show (x.2.1 == y.2.1) = true by simpa using e2] at hq ⊢
      simp only [if_true] at hq
      refine kat_yes (kat_cons (eqAt_int _ _ _ _ ?_))
      by_cases e3 : x.2.2 = y.2.2
      · rw [show (x.2.2 == y.2.2) = true by simpa using e3] at hq ⊢
        simp only [if_true] at hq
        exact kat_yes (kat_nil hq)
      · rw [show (x.2.2 == y.2.2) = false by simpa using e3] at hq ⊢
        simp only [Bool.false_eq_true, if_false] at hq
        exact kat_no (kat_one _ _ (ltAt_int _ _ _ _ hq))
    · rw [show (x.2.1 == y.2.1) = false by simpa using e2] at hq ⊢
      simp only [Bool.false_eq_true, if_false] at hq
      exact kat_no (kat_one _ _ (ltAt_int _ _ _ _ hq))
  · rw [decide_eq_false e] at hq ⊢
    simp only [Bool.false_eq_true, if_false] at hq
    refine cps fun PP kk => ?_
    obtain ⟨l1, vs1, rfl, m1, i1⟩ := ka
    obtain ⟨l2, vs2, rfl, m2, i2⟩ := kb
    refine kk ?_
    clear kk PP
    exact kat_no (oneLt_lists (s := ⟨h, g, d, t, os⟩) (D.flist m1) (D.flist m2) i1 i2 hu hq)

theorem katTups {vs : List (Value × Tri)} (D : Led B h live fz) (hT : ∀ x, x ∈ vs → IsTri fz x.1 x.2) : ∃ fs, KatTups h (vs.map (·.1)) fs ∧ fs.length = vs.length ∧ ∀ v, v ∈ fs → ∃ ns, IsInts fz v ns := by
  induction vs with
  | nil => exact ⟨[], .nil, rfl, fun _ hv => nomatch hv⟩
  | cons x vs ih =>
    refine cps fun PP kk => ?_
    obtain ⟨fs, k1, k2, k3⟩ := ih fun y hy => hT y (.tail _ hy)
    obtain ⟨a, kv, ot, et, e, ma, ka⟩ := hT x (.head _)
    obtain ⟨oa, hoa, rfl⟩ := D.rf ma
    refine kk ?_
    clear kk PP
    refine ⟨kv :: fs, ?_, by simp [k2], fun v hv => ?_⟩
    · rw [List.map_cons, e]
      exact KatTups.cons hoa rfl rfl rfl k1
    · rcases List.mem_cons.mp hv with rfl | hv
      · exact ⟨_, ka⟩
      · exact k3 v hv

def fI (items : List (Value × Tri)) (i j : Nat) : Bool := match items[i]?, items[j]? with | some x, some y => tlt x.2 y.2 | _, _ => false
theorem fI_at {items : List (Value × Tri)} {i j : Nat} (hi : i < items.length) (hj : j < items.length) : fI items i j = tlt items[i].2 items[j].2 := by
  unfold fI; rw [List.getElem?_eq_getElem hi, List.getElem?_eq_getElem hj]
theorem fI_irr (items : List (Value × Tri)) (i : Nat) : fI items i i = false := by
  by_cases hi : i < items.length
  · rw [fI_at hi hi]; exact tlt_irr _
  · unfold fI; rw [List.getElem?_eq_none (by omega)]
theorem fI_lt {items : List (Value × Tri)} {i j : Nat} (h : fI items i j = true) : i < items.length ∧ j < items.length := by
  unfold fI at h
  cases q1 : items[i]? with
  | none => rw [q1] at h; cases h
  | some x =>
    cases q2 : items[j]? with
    | none => rw [q1, q2] at h; cases h
    | some y => exact ⟨(List.getElem?_eq_some_iff.mp q1).1, (List.getElem?_eq_some_iff.mp q2).1⟩
theorem fI_trans {items : List (Value × Tri)} (i j k : Nat) (h1 : fI items i j = true) (h2 : fI items j k = true) : fI items i k = true := by
  refine cps fun PP kk => ?_
  obtain ⟨a, b⟩ := fI_lt h1
  obtain ⟨_, c⟩ := fI_lt h2
  refine kk ?_
  clear kk PP
  rw [fI_at a b] at h1
  rw [fI_at b c] at h2
  rw [fI_at a c]
  exact tlt_trans h1 h2
theorem picked {items : List (Value × Tri)} {p : Array Nat} (hp : PermN items.length p) (ha : Asc (fI items) p 1 items.length) :
    ∃ items' : List (Value × Tri), items'.Perm items ∧ items'.Pairwise (fun x y => tlt x.2 y.2 = true) ∧ p.toList.map (fun i => (items.map (·.1)).getD i Value.none) = items'.map (·.1) := by
  refine ⟨p.toList.map fun i => items.getD i (.none, [], 0, 0), ?_, ?_, ?_⟩
  · refine (List.Perm.map _ hp).trans (List.Perm.of_eq ?_)
    refine List.ext_getElem (by simp) fun i h1 h2 => ?_
    simp at h1
    simp [h1]
  · rw [List.pairwise_map, List.pairwise_iff_getElem]
    intro i j hi hj hij
    have hs := hp.size
    have hi' : i < p.size := by simpa using hi
    have hj' : j < p.size := by simpa using hj
    have := Asc.all fI_trans ha hij (by omega)
    obtain ⟨a, b⟩ := fI_lt this
    rw [fI_at a b] at this
    have e1 : VA p i = p.toList[i] := by rw [VA_q, Array.getElem?_eq_getElem hi']; simp
    have e2 : VA p j = p.toList[j] := by rw [VA_q, Array.getElem?_eq_getElem hj']; simp
    simp only [e1, e2] at this a b
    rw [List.getD_eq_getElem?_getD, List.getD_eq_getElem?_getD, List.getElem?_eq_getElem a, List.getElem?_eq_getElem b]
    exact this
  · rw [List.map_map]
    refine List.map_congr_left fun i _ => ?_
    simp only [Function.comp, List.getD_eq_getElem?_getD, List.getElem?_map]
    cases items[i]? <;> rfl

theorem short_pw {α : Type} (R : α → α → Prop) : ∀ l : List α, l.length < 2 → l.Pairwise R
  | [], _ => .nil
  | [x], _ => List.pairwise_singleton _ _
  | _ :: _ :: _, h => absurd h (by simp)
theorem sort_call {l : Addr} {K : (Obj → Prop) → List Ent} {items : List (Value × Tri)} {Q : Value → Shared → Prop} (hK : ∀ P P', Put l P P' (K P) (K P')) (D : Led B h (K (LListP (items.map (·.1)))) fz)
    (hT : ∀ x, x ∈ items → IsTri fz x.1 x.2) (h64 : items.length < 64) (hnd : ∀ i j (hi : i < items.length) (hj : j < items.length), i ≠ j → items[i].2 ≠ items[j].2) (hu : A.units + 5 < cLine)
    (hq : ∀ (items' : List (Value × Tri)) h' t', items'.Perm items → items'.Pairwise (fun x y => tlt x.2 y.2 = true) → Led B h' (K (LListP (items'.map (·.1)))) fz → Q .none ⟨h', g, d, t', os⟩) :
    wpAny (model prog w) A (call (.builtin "list.sort") [.ref l]) Q E ⟨h, g, d, t, os⟩ := by
  have hl := D.list (hK _ (LListP [])).mem
  refine cps fun PP kk => ?_
  obtain ⟨o, ho, n, rfl⟩ := D.rd (hK _ (LListP [])).mem
  refine kk ?_
  clear kk PP
  refine wpAny_call_entry slot_list_sort (s := ⟨h, g, d, t, os⟩) (Heap.IsList.typeIs hl) entry_list_sort ?_ (args_list_sort _)
  rw [list_sort_plain]
  refine wpAny_bind (listItems_at (s := ⟨h, g, d, t, os⟩) ho rfl ?_)
  refine wpAny_bind (listUpdate_at (s := ⟨h, g, d, t, os⟩) ho rfl ?_ (by simp [sizeLine_eq]; omega) (Nat.zero_le _))
  obtain ⟨e1, ho1⟩ : ∃ e1, (h.update l (Obj.mapSeq fun _ => (#[] : Array Value))).get? l = some (lstO [] e1) := ⟨_, get?_update_seq ho fun _ => #[]⟩
  have D1 : Led B (h.update l (Obj.mapSeq fun _ => (#[] : Array Value))) (K (fun o => o = lstO [] e1)) fz := D.same (hK _ _) (Heap.SameBut.update ..) ho1 rfl
  generalize h.update l (Obj.mapSeq fun _ => (#[] : Array Value)) = h1 at D1 ho1 ⊢
  refine wpAny_bind (seqEpoch_at (s := ⟨h1, g, d, t, os⟩) ho1 rfl ?_)
  refine wpAny_bind (wpAny_newTuple ?_ (by simp [sizeLine_eq]; omega))
  refine wpAny_bind (wpAny_newList ?_ (Nat.zero_le _))
  refine wpAny_holding ?_
  have D2 : Led B ((h1.push (tupO (items.map (·.1)))).push (lstO [] 0)) (K (fun o => o = lstO [] e1)) fz := (D1.skip rfl).skip rfl
  dsimp only
  show wpAny _ _ _ _ _ ⟨(h1.push (tupO (items.map (·.1)))).push (lstO [] 0), g, d, t, os⟩
  generalize (h1.push (tupO (items.map (·.1)))).push (lstO [] 0) = h2 at D2 ⊢
  obtain ⟨o2, ho2, rfl⟩ := D2.rd (hK _ (LListP [])).mem
  have fin : ∀ items' : List (Value × Tri), items'.Perm items → items'.Pairwise (fun x y => tlt x.2 y.2 = true) → ∀ h3, h3 = h2.update l (Obj.mapSeq fun _ => (items'.map (·.1)).toArray) → Q .none ⟨h3, g, d, t, os⟩ := by
    rintro items' hp hpw h3 rfl
    obtain ⟨c2, hc2⟩ : ∃ c2, (h2.update l (Obj.mapSeq fun _ => (items'.map (·.1)).toArray)).get? l = some (lstO (items'.map (·.1)) c2) := ⟨_, get?_update_seq ho2 fun _ => (items'.map (·.1)).toArray⟩
    exact hq items' _ t hp hpw (D2.same (hK _ _) (Heap.SameBut.update ..) hc2 ⟨c2, rfl⟩)
  by_cases hlt : (items.map (·.1)).toArray.size < 2
  · rw [if_pos hlt, if_pos hlt]
    have hl1 : items.length < 2 := by simpa using hlt
    refine wpAny_bind (wpAny_pure ?_)
    rw [StateT.run_pure]
    refine wpAny_bind (wpAny_pure ?_)
    dsimp only
    have e1' : (arrOf (SortSt.mk' general' ((items.map (·.1)).toArray.zip (items.map (·.1)).toArray) #[] 7 none)).map (·.2) = (items.map (·.1)).toArray := by
      show ((items.map (·.1)).toArray.zip (items.map (·.1)).toArray).map (·.2) = _
      exact Array.ext (by simp) fun i h1 h2 => by simp
    rw [e1']
    refine wpAny_bind (seqEpoch_at (s := ⟨h2, g, d, t, os⟩) ho2 rfl ?_)
    refine wpAny_bind (listUpdate_at (s := ⟨h2, g, d, t, os⟩) ho2 rfl ?_ (Nat.zero_le _) (by simp [sizeLine_eq]; omega))
    simp only [bne_self_eq_false, Bool.false_eq_true, if_false]
    refine wpAny_pure ⟨_, rfl, fin items (List.Perm.refl _) ?_ _ rfl⟩
    exact short_pw _ _ hl1
  · rw [if_neg hlt, if_neg hlt]
    have h2l : 2 ≤ items.length := by simpa using hlt
    refine cps fun PP kk => ?_
    obtain ⟨fs, k1, k2, k3⟩ := katTups D2 hT
    refine kk ?_
    clear kk PP
    refine wpAny_bind (kat_kind (T := .type "list") (s := ⟨h2, g, d, t, os⟩) k1 (by omega) (fun v hv => ?_) rfl ?_)
    · obtain ⟨ns, a, vs, rfl, m, _⟩ := k3 v hv
      refine cps fun PP kk => ?_
      obtain ⟨ol, hol, m', rfl⟩ := D2.rf m
      refine kk ?_
      clear kk PP
      exact (Looks.ld hol).andThen .now
    rw [show (Value.type "list" != Value.type "tuple") = true by decide]
    have hrun := kat_run (κ := tuples' true) (vs := items.map (·.1)) (ks := items.map (·.1)) (prog := prog) (w := w) (A := A.in1) (E := E) (s := ⟨h2, g, d, t, os⟩)
      (G := fun p s' => s' = ⟨h2, g, d, t, os⟩ ∧ PermN items.length p ∧ Asc (fI items) p 1 items.length)
      (Q := fun st' s' => ∃ p : Array Nat, arrOf st' = p.map (kas_item ((items.map (·.1)).toArray.zip (items.map (·.1)).toArray)) ∧ failedOf st' = none ∧ s' = ⟨h2, g, d, t, os⟩ ∧ PermN items.length p ∧ Asc (fI items) p 1 items.length)
      rfl (by simpa using h2l) (by simpa using h64) (fun p st' s' a1 a2 a3 a4 => ⟨p, a2, a3, a4⟩) ?_
    · refine wpAny_bind (wpAny_mono hrun ?_ fun _ _ e => e)
      rintro ⟨⟨⟩, st'⟩ s' ⟨p, har, hf, rfl, hp, ha⟩
      dsimp only
      refine cps fun PP kk => ?_
      obtain ⟨items', p1, p2, p3⟩ := picked hp ha
      refine kk ?_
      clear kk PP
      have hout := kat_snds rfl har
      rw [hout, p3]
      have hl' : items'.length < 64 := by rw [p1.length_eq]; exact h64
      refine wpAny_bind (seqEpoch_at (s := ⟨h2, g, d, t, os⟩) ho2 rfl ?_)
      refine wpAny_bind (listUpdate_at (s := ⟨h2, g, d, t, os⟩) ho2 rfl ?_ (Nat.zero_le _) (by simp [sizeLine_eq]; omega))
      rw [hf]
      simp only [bne_self_eq_false, Bool.false_eq_true, if_false]
      exact wpAny_pure ⟨_, rfl, fin items' p1 p2 _ rfl⟩
    · rw [List.length_map]
      refine sort_wp (n := items.length) (f := fI items) (fI_irr items) fI_trans (fun i j hi hj hne hf => ?_) (fun i j C hi hj hC => ?_) h2l fun p hp ha => ⟨rfl, hp, ha⟩
      · rw [fI_at hi hj] at hf
        rw [fI_at hj hi]
        cases q : tlt items[j].2 items[i].2 with
        | true => rfl
        | false => exact absurd (tlt_total hf q) (hnd i j hi hj hne)
      · show wpAny _ _ (keyLt' (tuples' true) ((items.map (·.1)).getD i Value.none) ((items.map (·.1)).getD j Value.none)) _ _ _
        rw [List.getD_eq_getElem?_getD, List.getD_eq_getElem?_getD, List.getElem?_map, List.getElem?_map, List.getElem?_eq_getElem hi, List.getElem?_eq_getElem hj]
        rw [fI_at hi hj] at hC
        exact keyLt_tri D2 (hT _ (List.getElem_mem hi)) (hT _ (List.getElem_mem hj)) (by show A.units + 1 < cLine; omega) hC
end
end

section
/-! ## nsmallest: the heap, the rest of the tape, the end -/
inductive HRun (n : Int) : List Rec → List (Value × Tri) → Int → Prop
  | start {recs : List Rec} {items : List (Value × Tri)} : items.map (·.2) = numbered recs → recs.length ≤ n.toNat → 0 < recs.length → HRun n recs (hfy vlt (items.length / 2) items) n
  | keep {recs : List Rec} {items : List (Value × Tri)} {order : Int} {x : Value × Tri} {hd : Int} {k : List Int} : HRun n recs items order → items.length = n.toNat → items[0]? = some x → ilt k x.2.1 = false → HRun n (recs ++ [(hd, k)]) items order
  | repl {recs : List Rec} {items : List (Value × Tri)} {order : Int} {x : Value × Tri} {v : Value} {hd : Int} {k : List Int} : HRun n recs items order → items.length = n.toNat → items[0]? = some x → ilt k x.2.1 = true →
      HRun n (recs ++ [(hd, k)]) (siftup vlt 0 (items.set 0 (v, k, order, hd))) (order + 1)
def Sel (n : Int) (recs : List Rec) (heads : List Int) : Prop := ∃ (items : List (Value × Tri)) (order : Int) (items' : List (Value × Tri)), HRun n recs items order ∧ items'.Perm items ∧ items'.Pairwise (fun x y => tlt x.2 y.2 = true) ∧ heads = items'.map (·.2.2.2)

theorem numbered_orders (recs : List Rec) : (numbered recs).map (·.2.1) = (List.range recs.length).map (fun i : Nat => (i : Int)) := by
  unfold numbered
  rw [List.map_map]
  refine List.ext_getElem (by simp) fun i h1 h2 => ?_
  simp
theorem HRun.orders {n : Int} {recs : List Rec} {items : List (Value × Tri)} {order : Int} (r : HRun n recs items order) : (∀ x, x ∈ items → x.2.2.1 < order) ∧ (items.map (·.2.2.1)).Nodup := by
  induction r with
  | @start recs items hn hl hp =>
    have hperm := hfy_perm vlt (items.length / 2) items
    have e : items.map (·.2.2.1) = (List.range recs.length).map (fun i : Nat => (i : Int)) := by
      rw [← numbered_orders, ← hn, List.map_map]; rfl
    refine ⟨fun x hx => ?_, ?_⟩
    · have : x.2.2.1 ∈ items.map (·.2.2.1) := List.mem_map_of_mem (f := fun x : Value × Tri => x.2.2.1) (hperm.mem_iff.mp hx)
      rw [e] at this
      obtain ⟨i, hi, e'⟩ := List.mem_map.mp this
      have := List.mem_range.mp hi
      omega
    · refine ((hperm.map _).nodup_iff).mpr ?_
      rw [e]
      exact List.Pairwise.map (fun i : Nat => (i : Int)) (fun a b h => by intro e; exact h (by omega)) List.nodup_range
  | keep _ _ _ _ ih => exact ih
  | @repl recs items order x v hd k r hlen h0 hk ih =>
    have hperm := siftup_perm vlt 0 (items.set 0 (v, k, order, hd))
    obtain ⟨h1, h2⟩ := ih
    refine ⟨fun y hy => ?_, ((hperm.map _).nodup_iff).mpr ?_⟩
    · rcases List.mem_or_eq_of_mem_set (hperm.mem_iff.mp hy) with hy | rfl
      · have := h1 y hy; omega
      · show order < order + 1; omega
    · obtain ⟨h00, _⟩ := List.getElem?_eq_some_iff.mp h0
      match items, h00, h1, h2 with
      | a :: r, _, h1, h2 =>
        show (order :: r.map (·.2.2.1)).Nodup
        rw [List.map_cons, List.nodup_cons] at h2
        rw [List.nodup_cons]
        refine ⟨fun hm => ?_, h2.2⟩
        obtain ⟨y, hy, e⟩ := List.mem_map.mp hm
        have := h1 y (.tail _ hy)
        omega
theorem HRun.distinct {n : Int} {recs : List Rec} {items : List (Value × Tri)} {order : Int} (r : HRun n recs items order) (i j : Nat) (hi : i < items.length) (hj : j < items.length) (hne : i ≠ j) : items[i].2 ≠ items[j].2 := by
  intro e
  have pw := List.pairwise_iff_getElem.mp r.orders.2
  have ev : items[i].2.2.1 = items[j].2.2.1 := by rw [e]
  rcases Nat.lt_or_gt_of_ne hne with h | h
  · exact pw i j (by simpa using hi) (by simpa using hj) h (by simpa using ev)
  · exact pw j i (by simpa using hj) (by simpa using hi) h (by simpa using ev.symm)
theorem HRun.length {n : Int} {recs : List Rec} {items : List (Value × Tri)} {order : Int} (r : HRun n recs items order) : 0 < items.length ∧ items.length ≤ n.toNat ∧ items.length ≤ recs.length := by
  induction r with
  | @start recs items hn hl hp =>
    have : items.length = recs.length := by have := congrArg List.length hn; simpa [numbered] using this
    rw [hfy_length]; omega
  | keep _ _ _ _ ih => simp; omega
  | repl _ _ _ _ ih => rw [siftup_length, List.length_set]; simp; omega

section
variable {prog : Program} {w : World} {A : Around} {Q : Flow → Shared → Prop} {E : Value → Shared → Prop} {B h : Heap} {fz : List Ent} {g : Array GenState} {d : Drawn} {t : Nat} {os : OsState} {mg mb : Str → Option Value} {fa : Nat → Addr}

abbrev kvs7 (n : Int) (tn : Tok) (tp rl : Addr) (top : Value) (order : Int) (to : Tok) (hr : Addr) : List (Str × Value) :=
  [(sN, .int n tn), (sIterable, .ref tp), (sIt, .ref tp), (sResult, .ref rl), (Str.ofString "top", top), (Str.ofString "order", .int order to), (Str.ofString "_heapreplace", .ref hr)]

abbrev kvs8 (n : Int) (tn : Tok) (tp rl : Addr) (top : Value) (order : Int) (to : Tok) (hr : Addr) (elem : Value) : List (Str × Value) :=
  [(sN, .int n tn), (sIterable, .ref tp), (sIt, .ref tp), (sResult, .ref rl), (Str.ofString "top", top), (Str.ofString "order", .int order to), (Str.ofString "_heapreplace", .ref hr), (Str.ofString "elem", elem)]

theorem it_list {Q : Value → Shared → Prop} {f0 : Ent} {rest : List Ent} {l : Addr} {xs : List Value} (D : Led B h (f0 :: rest) fz) (hl : h.IsList l xs.toArray)
    (hq : ∀ it h', Led B h' (f0 :: (it, TapeP l xs.length 0) :: rest) fz → Q (.ref it) ⟨h', g, d, t, os⟩) : wpAny (model prog w) A (pyIter (.ref l)) Q E ⟨h, g, d, t, os⟩ :=
  wpAny_pyIter_list (s := ⟨h, g, d, t, os⟩) hl (hq _ _ (D.alloc2 (P := TapeP l xs.length 0) (.inl ⟨⟨rfl, rfl⟩, Nat.zero_le _⟩) rfl))
theorem go_tape {Q : Unit → Shared → Prop} {live : List Ent} {elts : List Expr} {x1 : Nat} {pos : Pos} {it l v : Addr} {n i : Nat} (D : Led B h live fz) (hm : (it, TapeP l n i) ∈ live) (hq : Q () ⟨h, g, d, t, os⟩) :
    wpAny (model prog w) A (letOwnedTupleGo (.Tuple elts x1 pos) (.ref it) (.ref v)) Q E ⟨h, g, d, t, os⟩ := by
  refine cps fun PP kk => ?_
  obtain ⟨⟨oc, od, dt, sl⟩, ho, hp⟩ := D.rd hm
  refine kk ?_
  clear kk PP
  unfold letOwnedTupleGo
  refine wpAny_bind (wpAny_load (s := ⟨h, g, d, t, os⟩) ho ?_)
  rcases hp with ⟨⟨hc, hd⟩, _⟩ | ⟨⟨hc, i', hd⟩, _⟩
  all_goals
    simp only at hc hd
    subst hc hd
    exact wpAny_pure hq

theorem nsm_last {kc L f rl tp : Addr} {cdv : Value} {R : List Ent} {n : Int} {tn : Tok} {recs : List Rec} {heap : List (Value × Tri)} {order : Int} {to : Tok} {topv : Value} {hr : Addr} (S : Stat B mg mb fa) (H : HRun n recs heap order)
    (D : Led B h ((L, FrameP (kvs7 n tn tp rl topv order to hr)) :: (rl, LListP (heap.map (·.1))) :: R) fz) (htri : ∀ x, x ∈ heap → IsTri fz x.1 x.2) (h64 : heap.length < 64)
    (hh : A.handled = none) (hu : A.units + 60 < cLine)
    (hok : ∀ heads vs rl' fz' h' t', (∀ p, p ∈ fz → p ∈ fz') → Sel n recs heads → IntsAre vs heads → (rl', LListP vs) ∈ fz' → Led B h' R fz' → Q (.ret (.ref rl')) ⟨h', g, d, t', os⟩) :
    wpAny (model prog w) A (execs ((bodyOf (stmtAt 5)).drop 11) (nsmEnv kc L f cdv)) Q E ⟨h, g, d, t, os⟩ := by
  walk_at "ex"
  refine wpAny_Call_method0_late (by rfl) (by rfl) ?_
  walk_at "nl"
  have hl := D.list (l := rl) (by walk_at "mem")
  refine cps fun PP kk => ?_
  obtain ⟨o, ho, n', rfl⟩ := D.rd (a := rl) (by walk_at "mem")
  refine kk ?_
  clear kk PP
  refine ⟨"list", "list.sort", F.plainAttrs_list, F.slot_list_sort, F.type_list_sort, Heap.IsList.typeIs (s := ⟨h, g, d, t, os⟩) hl, fun a ea => by cases ea; exact ⟨_, ho, rfl⟩, ?_⟩
  refine callWith_method0 (env := nsmEnv kc L f cdv) ?_
  refine sort_call (K := fun P => (L, FrameP (kvs7 n tn tp rl topv order to hr)) :: (rl, P) :: R) (fun P P' => .there .here) D htri h64 H.distinct (by omega) ?_
  intro items' h1 t1 hp hpw D1
  refine wpAny_execs_cons ?_
  refine wpAny_Return_some ?_
  rw [eval_ListComp]
  have htri' : ∀ x, x ∈ items' → IsTri fz x.1 x.2 := fun x hx => htri x (hp.mem_iff.mp hx)
  have h64' : items'.length < 64 := by rw [hp.length_eq]; exact h64
  refine comp_ledger (B := B) (g := g) (d := d) (os := os) (cl := []) (L := L) rfl (by rfl) (by rfl) (by decide +kernel) (by decide +kernel) ?_
  walk_at "nl"
  refine it_list D1 (D1.list (by walk_at "mem")) (fun it h2 D2 => ?_)
  rw [List.length_map] at D2
  refine ⟨h2, _, _, _, rfl, D2, fun C acc h3 t3 D3 => ⟨fun E' Q' hq' => iter_tape D3 (by walk_at "mem") hq', ?_⟩⟩
  refine comp_turns (fun m s => ∃ (h' : Heap) (t' : Nat) (j : Nat) (vs : List Value), s = ⟨h', g, d, t', os⟩ ∧ m + j = items'.length ∧ IntsAre vs ((items'.take j).map (·.2.2.2)) ∧
    Led B h' ((C, FrameP []) :: (acc, LListP vs) :: (L, FrameP (kvs7 n tn tp rl topv order to hr)) :: (it, TapeP rl items'.length j) :: (rl, LListP (items'.map (·.1))) :: R) fz) ?turn items'.length
    ⟨h3, t3, 0, [], rfl, rfl, .nil, D3⟩
  intro m s hEx
  refine cps fun PP kk => ?_
  obtain ⟨h4, t4, j, vs, rfl, hm, hvs, D4⟩ := hEx
  refine kk ?_
  clear kk PP
  have hvl : vs.length = j := by have := IntsAre.len hvs; simp at this; omega
  cases m with
  | zero =>
    refine next_tape_end (xs := items'.map (·.1)) (by simp) hh D4 (.there (.there (.there .here))) (D4.list (by walk_at "mem")) (by simp; omega) (fun h5 D5 => ?_)
    have ej : j = items'.length := by omega
    rw [ej, List.take_length] at hvs
    have D6 : Led B h5 ((C, FrameP []) :: R) ((acc, LListP vs) :: fz) := by
      have D7 := (D5.perm (List.Perm.swap _ _ _)).freeze
      exact D7.sub (List.Sublist.cons_cons _ (((List.Sublist.refl _).cons _).cons _ |>.cons _)) fun _ hp => hp
    exact ⟨h5, _, _, _, [], rfl, D6, fun h6 D7 => hok _ vs acc _ h6 _ (fun p hp => .tail _ hp) ⟨_, _, items', H, hp, hpw, rfl⟩ hvs (.head _) D7⟩
  | succ m =>
    have hj : j < items'.length := by omega
    refine cps fun PP kk => ?_
    obtain ⟨ta, kv, ot, et, ex, mta, hkv⟩ := htri' items'[j] (List.getElem_mem hj)
    refine kk ?_
    clear kk PP
    refine next_tape (xs := items'.map (·.1)) (x := .ref ta) (by simp) D4 (.there (.there (.there .here))) (D4.list (by walk_at "mem")) (by rw [List.getElem?_map, List.getElem?_eq_getElem hj, ← ex]; rfl) (fun h5 D5 => ?_)
    refine go_tape D5 (it := it) (by walk_at "mem") ?_
    refine wpAny_assign_Tuple (s := ⟨h5, g, d, t4, os⟩) hh (D5.ftup mta) (by rfl) (by rfl) (fun h6 hx6 => ?_)
    have D6 := D5.extFresh hx6
    refine wpAny_assignInOrder_more ?_
    refine wpAny_assign_Name ?_
    walk_at "st"
    intro h7 t7 D7
    refine wpAny_assignInOrder_more ?_
    refine wpAny_assign_Name ?_
    walk_at "st"
    intro h8 t8 D8
    refine wpAny_assignInOrder_more ?_
    refine wpAny_assign_Name ?_
    walk_at "st"
    intro h9 t9 D9
    refine wpAny_assignInOrder_none ?_
    walk_at "nl"
    refine append_ D9 (.there .here) (by unfold sizeLine; omega) (fun h10 D10 => ?_)
    have D11 := D10.weak (P' := FrameP []) fun o hp => hp.sub (by intro x v e; simp [aget] at e)
    refine ⟨m, Nat.lt_succ_self _, h10, _, j + 1, _, rfl, by omega, ?_, D11⟩
    rw [List.take_add_one, List.getElem?_eq_getElem hj, List.map_append]
    exact IntsAre.snoc hvs

theorem nsm_tail {nl c kf tp kc L f rl : Addr} {cdv : Value} {ns : List Int} {K : (Obj → Prop) → List Ent} {i j : Nat} {n : Int} {tn : Tok} {outer : List Env} {recs : List Rec} {items : List (Value × Tri)} (S : Stat B mg mb fa) (T : Tape fz nl c kf tp ns) (hkc : (kc, CellP (.ref kf)) ∈ fz)
    (hK : ∀ P P', Put tp P P' (K P) (K P')) (hrun : Run ns i recs j) (hi : i ≤ ns.length) (hnl : ns.length < 2 ^ 20) (h64 : n.toNat < 64 ∨ ns.length < i + 64) (hle : recs.length ≤ n.toNat) (hfull : recs.length = n.toNat ∨ j = ns.length) (hnum : items.map (·.2) = numbered recs) (htri : ∀ x, x ∈ items → IsTri fz x.1 x.2)
    (D : Led B h ((L, FrameP [(sN, .int n tn), (sIterable, .ref tp), (sIt, .ref tp), (sResult, .ref rl)]) :: (rl, LListP (items.map (·.1))) :: K (TapeP nl ns.length j)) fz)
    (hh : A.handled = none) (hd : A.depth + 4 < recursionLimit) (hu : A.units + 60 < cLine) (hfr : A.frames = some (nsmEnv kc L f cdv :: outer)) (hF : ∀ P, FrOk (K P) outer)
    (hok0 : recs = [] → ∀ h' t', Led B h' (K (TapeP nl ns.length j)) ((rl, LListP []) :: fz) → Q (.ret (.ref rl)) ⟨h', g, d, t', os⟩)
    (hok : ∀ (recs' : List Rec) heads vs rl' fz' h' t', (∀ p, p ∈ fz → p ∈ fz') → Run ns i recs' ns.length → Sel n recs' heads → IntsAre vs heads → (rl', LListP vs) ∈ fz' →
      Led B h' (K (TapeP nl ns.length ns.length)) fz' → Q (.ret (.ref rl')) ⟨h', g, d, t', os⟩)
    (hcut : 0 < n → ∀ recs j e a0 kvs fz' h' t', (∀ p, p ∈ fz → p ∈ fz') → Run ns i recs j → (hj : j < ns.length) → ns.length < j + 1 + rOf ns[j] →
      Fly B h' ((L, FrameP kvs) :: K (TapeP nl ns.length ns.length)) fz' e "StopIteration" a0 (rawInt L) → E (.ref e) ⟨h', g, d, t', os⟩)
    (hsp : 0 < n → ∀ recs j tx e a0 rv kvs fz' h' t', (∀ p, p ∈ fz → p ∈ fz') → Run ns i recs j → (hj : j < ns.length) → j + 1 + rOf ns[j] ≤ ns.length → spoilt ns[j] = true → (a0, TupP [.int ns[j] tx, rv]) ∈ fz' → IsInts fz' rv (restOf ns (j + 1) ns[j]) →
      Fly B h' ((L, FrameP kvs) :: K (TapeP nl ns.length (j + 1 + rOf ns[j]))) fz' e "ValueError" (.ref a0) (rawInt L) → E (.ref e) ⟨h', g, d, t', os⟩) :
    wpAny (model prog w) A (execs ((bodyOf (stmtAt 5)).drop 5) (nsmEnv kc L f cdv)) Q E ⟨h, g, d, t, os⟩ := by
  refine cps fun PP kk => ?_
  obtain ⟨cd, hkf, hcd⟩ := T.key
  obtain ⟨nvs, hnlm, hnv⟩ := T.nums
  refine kk ?_
  clear kk PP
  have hlen := IntsAre.len hnv
  have hil : items.length = recs.length := by have := congrArg List.length hnum; simpa [numbered] using this
  have hrl := hrun.len
  have hjl := hrun.le hi
  walk_at "if"
  refine isTrue_not ?_
  refine isTrue_plain ?_
  walk_at "nl"
  refine wpAny_truthy_list (s := ⟨h, g, d, t, os⟩) (D.list (by walk_at "mem")) (by simp; omega) ?_
  by_cases he : recs = []
  · have hi0 : items = [] := by cases items with | nil => rfl | cons _ _ => rw [he] at hil; simp at hil
    subst hi0
    refine wpAny_execs_cons ?_
    refine wpAny_Return_some ?_
    walk_at "nl"
    exact hok0 he _ _ (D.drop.freeze)
  have hpos : 0 < recs.length := List.length_pos_iff.mpr he
  have hne : items ≠ [] := fun e => by rw [e] at hil; simp at hil; omega
  rw [show (!!(items.map (·.1)).toArray.isEmpty) = false by simp [hne]]
  refine wpAny_execs_nil ?_
  walk_at "ex"
  refine Call_ ?_
  walk_at "nf"
  refine callWith_fn (S.fn 2 _ (by walk_at "mem")).2 ?_
  refine args_cons ?_
  walk_at "nl"
  refine args_nil ?_
  refine ⟨D.keep, ?_⟩
  refine heapify_call (K := fun P => (L, FrameP [(sN, .int n tn), (sIterable, .ref tp), (sIt, .ref tp), (sResult, .ref rl)]) :: (rl, P) :: K (TapeP nl ns.length j)) (items := items) S hh (fun P P' => .there .here) D htri (by omega) (by omega) (by omega) ?_
  intro h1 t1 D1
  have H1 : HRun n recs (hfy vlt (items.length / 2) items) n := .start hnum hle hpos
  have htri1 : ∀ x, x ∈ hfy vlt (items.length / 2) items → IsTri fz x.1 x.2 := fun x hx => htri x (hfy_mem vlt _ _ _ hx)
  have hfull1 : (hfy vlt (items.length / 2) items).length = n.toNat ∨ j = ns.length := by rw [hfy_length, hil]; exact hfull
  generalize hfy vlt (items.length / 2) items = heap at D1 H1 htri1 hfull1
  refine cps fun PP kk => ?_
  obtain ⟨x0, hx0⟩ : ∃ x, heap[0]? = some x := ⟨_, List.getElem?_eq_getElem H1.length.1⟩
  obtain ⟨ta, kv, ot, et, ex, mta, hkv⟩ := htri1 x0 (List.mem_of_getElem? hx0)
  refine kk ?_
  clear kk PP
  walk_at "as"
  refine Subscript_ ?_
  refine Subscript_ ?_
  walk_at "nl"
  walk_at "ci"
  refine item_list (v := x0.1) (D1.list (by walk_at "mem")) (by omega) (by omega) (by show (List.map _ heap)[0]? = _; rw [List.getElem?_map, hx0]; rfl) ?_
  rw [ex]
  walk_at "ci"
  refine item_tupleT (l := [kv, .int x0.2.2.1 ot, .int x0.2.2.2 et]) (j := 0) (x := kv) (D1.ftup mta) (by omega) (by omega) (by rfl) (by rfl) ?_
  walk_at "st"
  intro h2 t2 D2
  walk_at "as"
  walk_at "nl"
  walk_at "st"
  intro h3 t3 D3
  walk_at "as"
  walk_at "nf"
  walk_at "st"
  intro h4 t4 D4
  refine wpAny_execs_cons ?_
  refine wpAny_For ?_
  walk_at "nl"
  refine iter_tape D4 (.tail _ (.tail _ (hK _ (LListP [])).mem)) ?_
  refine codeAny_forLoop (fun m s => ∃ (h' : Heap) (t' : Nat) (recs : List Rec) (j : Nat) (heap : List (Value × Tri)) (order : Int) (to : Tok) (topv : Value) (x0 : Value × Tri) (fz' : List Ent), s = ⟨h', g, d, t', os⟩ ∧ m + j = ns.length ∧ (∀ p, p ∈ fz → p ∈ fz') ∧
    Run ns i recs j ∧ HRun n recs heap order ∧ (heap.length = n.toNat ∨ j = ns.length) ∧ heap[0]? = some x0 ∧ IsInts fz' topv x0.2.1 ∧ (∀ x, x ∈ heap → IsTri fz' x.1 x.2) ∧
    Led B h' ((L, FrameP (kvs7 n tn tp rl topv order to (fa 1))) :: (rl, LListP (heap.map (·.1))) :: K (TapeP nl ns.length j)) fz') ?turn (ns.length - j)
    ⟨h4, _, recs, j, heap, n, tn, kv, x0, fz, rfl, by omega, fun _ hp => hp, hrun, H1, hfull1, hx0, hkv, htri1, D4⟩
  clear hfull1 hx0 hkv htri1 H1 D4 D3 D2 D1 D mta ex hfull hrun hle hnum htri hok0 hpos hne he hrl hjl hil
  clear items recs
  intro m s hEx
  refine cps fun PP kk => ?_
  obtain ⟨h5, t5, recs, j, heap, order, to, topv, x0, fz5, rfl, hm, hfz, hrun, H5, hfull, hx0, htop, htri, D5⟩ := hEx
  refine kk ?_
  clear kk PP
  have hrl := hrun.len
  have hjl := hrun.le hi
  have hhl := H5.length
  cases m with
  | zero =>
    have ej : j = ns.length := by omega
    subst ej
    refine next_tape_end hlen hh D5 (.there (.there (hK _ _))) (D5.flist (hfz _ hnlm)) (by omega) (fun h6 D6 => ?_)
    refine wpAny_execs_nil ?_
    refine nsm_last S H5 D6 htri (by omega) hh hu ?_
    intro heads vs rl' fz' h7 t7 hsub hsel hvs hmem D7
    exact hok recs heads vs rl' fz' h7 t7 (fun p hp => hsub _ (hfz _ hp)) hrun hsel hvs hmem D7
  | succ m =>
    have hend : j < ns.length := by omega
    have hfl : heap.length = n.toNat := by omega
    obtain ⟨tv, hv⟩ := ints_get hnv j hend
    refine next_tape hlen D5 (.there (.there (hK _ _))) (D5.flist (hfz _ hnlm)) hv (fun h6 D6 => ?_)
    refine wpAny_assign_Name ?_
    walk_at "st"
    intro h7 t7 D7
    walk_at "as"
    refine Call_ ?_
    refine wpAny_Name (ld_cell D7 (.inr (hfz _ hkc)) (by rfl) (by rfl) (.inl (by rfl)) ?_) (by decide)
    refine callWith_key (hfz _ hkf) D7 ?_
    refine args_cons ?_
    walk_at "nl"
    refine args_nil ?_
    refine ⟨⟨h7, _, _, _, rfl, D7, hfz _ hkf⟩, ?_⟩
    have hFr : ∀ P, FrOk ((L, FrameP (kvs8 n tn tp rl topv order to (fa 1) (.int ns[j] tv))) :: (rl, LListP (heap.map (·.1))) :: K P) (nsmEnv kc L f cdv :: outer) := by
      intro P env he
      rcases List.mem_cons.mp he with rfl | he
      · exact ⟨show (scopeOf (stmtAt 5)).kind ≠ .module by decide +kernel, L, _, rfl, by walk_at "mem"⟩
      · obtain ⟨hk, L', kvs', hf, hm⟩ := hF P env he
        exact ⟨hk, L', kvs', hf, .tail _ (.tail _ hm)⟩
    refine key_call (ns := ns) (nl := nl) (c := c) (i := j + 1) (outer := nsmEnv kc L f cdv :: outer)
      (K := fun P => (L, FrameP (kvs8 n tn tp rl topv order to (fa 1) (.int ns[j] tv))) :: (rl, LListP (heap.map (·.1))) :: K P)
      S (T.mono hfz) (fun P P' => .there (.there (hK P P'))) D7 (by omega) hh (by omega) hfr hFr ?_ ?_ ?_
    · intro hc e a0 h8 t8 D8
      refine noted_came rfl (note_fly hfr (hFr _) rfl D8 fun h9 D9 => ⟨h9, rfl, D9⟩) (fun h9 D9 => ?_)
      exact hcut (by omega) recs j e a0 _ _ h9 _ hfz hrun hend hc (D9.sub (List.Sublist.cons_cons _ (List.sublist_cons_self _ _)) fun _ hp => hp)
    · intro hle hs e a0 rv fz6 h8 t8 hsub ha hr D8
      refine noted_came rfl (note_fly hfr (hFr _) rfl D8 fun h9 D9 => ⟨h9, rfl, D9⟩) (fun h9 D9 => ?_)
      exact hsp (by omega) recs j tv e a0 rv _ _ h9 _ (fun p hp => hsub _ (hfz p hp)) hrun hend hle hs ha hr (D9.sub (List.Sublist.cons_cons _ (List.sublist_cons_self _ _)) fun _ hp => hp)
    · intro hle hs rv fz6 h8 t8 hsub hrv D8
      walk_at "st"
      intro h9 t9 D9
      have hfz6 : ∀ p, p ∈ fz → p ∈ fz6 := fun p hp => hsub _ (hfz p hp)
      have hrun' := Run.snoc hend hrun hle hs
      walk_at "if"
      refine wpAny_isTrue_Compare1 ?_
      walk_at "nl"
      walk_at "nl"
      refine cmp_lt (ltAt_ints D9 hrv (htop.mono hsub) (by omega)) (wpAny_truthy_bool ?_)
      refine split_bool (fun hlt => ?_) (fun hlt => ?_)
      · refine wpAny_execs_cons ?_
        refine wpAny_Expr_any ?_
        refine Call_ ?_
        walk_at "nl"
        refine callWith_fn (S.fn 1 _ (by walk_at "mem")).2 ?_
        refine args_cons ?_
        walk_at "nl"
        refine args_cons ?_
        refine Tuple_ ?_
        refine args_cons ?_
        walk_at "nl"
        refine args_cons ?_
        walk_at "nl"
        refine args_cons ?_
        walk_at "nl"
        refine args_nil ?_
        refine mk_tuple D9 (by show 3 ≤ sizeLine; decide) (fun tu h10 D10 => ?_)
        refine args_nil ?_
        refine ⟨D10.keep, ?_⟩
        have D11 := (D10.perm (List.Perm.swap _ _ _)).freeze
        have hsub7 : ∀ p, p ∈ fz6 → p ∈ (tu, TupP [rv, .int order to, .int ns[j] tv]) :: fz6 := fun p hp => .tail _ hp
        have htu : IsTri ((tu, TupP [rv, .int order to, .int ns[j] tv]) :: fz6) (.ref tu) (restOf ns (j + 1) ns[j], order, ns[j]) := ⟨tu, rv, to, tv, rfl, .head _, hrv.mono hsub7⟩
        have htr7 : ∀ x, x ∈ heap → IsTri ((tu, TupP [rv, .int order to, .int ns[j] tv]) :: fz6) x.1 x.2 := fun x hx => ((htri x hx).mono hsub).mono hsub7
        refine heapreplace_call (item := (.ref tu, restOf ns (j + 1) ns[j], order, ns[j]))
          (K := fun P => (L, FrameP [(sN, .int n tn), (sIterable, .ref tp), (sIt, .ref tp), (sResult, .ref rl), (Str.ofString "top", topv), (Str.ofString "order", .int order to), (Str.ofString "_heapreplace", .ref (fa 1)), (Str.ofString "elem", .int ns[j] tv), (Str.ofString "k", rv)]) :: (rl, P) :: K (TapeP nl ns.length (j + 1 + rOf ns[j])))
          (items := heap) S (fun P P' => .there .here) D11 htr7 htu hx0 (by omega) (by omega) (by omega) ?_
        intro h12 t12 D12
        have H6 := HRun.repl (v := .ref tu) (hd := ns[j]) H5 hfl hx0 hlt
        have htr8 : ∀ x, x ∈ siftup vlt 0 (heap.set 0 (.ref tu, restOf ns (j + 1) ns[j], order, ns[j])) → IsTri ((tu, TupP [rv, .int order to, .int ns[j] tv]) :: fz6) x.1 x.2 := fun x hx => by
          rcases List.mem_or_eq_of_mem_set (siftup_mem vlt _ _ _ hx) with hx | rfl
          · exact htr7 x hx
          · exact htu
        have hfl8 : (siftup vlt 0 (heap.set 0 (.ref tu, restOf ns (j + 1) ns[j], order, ns[j]))).length = n.toNat := by rw [siftup_length, List.length_set]; exact hfl
        generalize siftup vlt 0 (heap.set 0 (.ref tu, restOf ns (j + 1) ns[j], order, ns[j])) = heap2 at D12 H6 htr8 hfl8
        refine cps fun PP kk => ?_
        obtain ⟨x1, hx1⟩ : ∃ x, heap2[0]? = some x := ⟨_, List.getElem?_eq_getElem H6.length.1⟩
        obtain ⟨tb, kv1, ot1, et1, ex1, mtb, hkv1⟩ := htr8 x1 (List.mem_of_getElem? hx1)
        refine kk ?_
        clear kk PP
        refine wpAny_execs_cons ?_
        refine Assign_Tuple ?_
        refine Subscript_ ?_
        walk_at "nl"
        walk_at "ci"
        refine item_list (v := x1.1) (D12.list (by walk_at "mem")) (by omega) (by omega) (by show (List.map _ heap2)[0]? = _; rw [List.getElem?_map, hx1]; rfl) ?_
        rw [ex1]
        refine wpAny_assign_Tuple (s := ⟨h12, g, d, t12 + 1, os⟩) hh (D12.ftup mtb) (by rfl) (by rfl) (fun h13 hx13 => ?_)
        have D13 := D12.extFresh hx13
        refine wpAny_assignInOrder_more ?_
        refine wpAny_assign_Name ?_
        walk_at "st"
        intro h14 t14 D14
        refine wpAny_assignInOrder_more ?_
        refine wpAny_assign_Name ?_
        walk_at "st"
        intro h15 t15 D15
        refine wpAny_assignInOrder_more ?_
        refine wpAny_assign_Name ?_
        walk_at "st"
        intro h16 t16 D16
        refine wpAny_assignInOrder_none ?_
        refine wpAny_execs_cons ?_
        refine wpAny_AugAssign_Name ?_
        refine ld_name D16 (by rfl) (by rfl) (by rfl) (by rfl) ?_
        walk_at "ci"
        refine o_iadd ?_
        walk_at "st"
        intro h17 t17 D17
        refine wpAny_execs_nil ?_
        refine wpAny_execs_nil ?_
        refine ⟨ns.length - (j + 1 + rOf ns[j]), by omega, h17, _, _, _, heap2, order + 1, _, kv1, x1, _, rfl, ?_, fun p hp => hsub7 _ (hfz6 _ hp), hrun', H6, .inl hfl8, hx1, hkv1, htr8, Led.fewer (kvs := kvs7 n tn tp rl kv1 (order + 1) _ (fa 1)) (kvs' := [_, _, _, _]) D17⟩
        omega
      · refine wpAny_execs_nil ?_
        refine wpAny_execs_nil ?_
        refine ⟨ns.length - (j + 1 + rOf ns[j]), by omega, h9, _, _, _, heap, order, to, topv, x0, fz6, rfl, ?_, hfz6, hrun', .keep H5 hfl hx0 hlt, .inl hfl, hx0, htop.mono hsub, fun x hx => (htri x hx).mono hsub, Led.fewer (kvs := kvs7 n tn tp rl topv order to (fa 1)) (kvs' := [_, _]) D9⟩
        omega
end
end

section
/-! ## nsmallest: the head, the call -/
section
variable {prog : Program} {w : World} {A : Around} {E : Value → Shared → Prop} {B h : Heap} {live live' fz : List Ent} {g : Array GenState} {d : Drawn} {t : Nat} {os : OsState} {mg mb : Str → Option Value} {fa : Nat → Addr}

theorem made_raw {h' : Heap} {e : Addr} {cls : String} {args : List Value} (D : Led B h live fz) (hm : Heap.MadeExc h h' e cls args) : ∃ a0, Raw B h' live ((a0, TupP args) :: fz) e cls (.ref a0) := by
  refine cps fun PP kk => ?_
  obtain ⟨tt, he, hnt, htt⟩ := hm.there
  refine kk ?_
  clear kk PP
  have hne : e ≠ tt := fun q => by rw [← q, he] at htt; exact absurd (congrArg (fun o : Option Obj => o.map (·.data)) htt) (by simp)
  have bn : ∀ a, h.get? a = none → B.get? a = none := fun a ha => by
    cases q : B.get? a with
    | none => rfl
    | some o => have := D.keep _ _ q; rw [ha] at this; cases this
  have ln : ∀ a, h.get? a = none → a ∉ live.map (·.1) := fun a ha hm' => by
    refine cps fun PP kk => ?_
    obtain ⟨p, hp, e⟩ := List.mem_map.mp hm'
    obtain ⟨⟨o, ho, _⟩, _⟩ := D.lv p hp
    refine kk ?_
    clear kk PP
    rw [e, ha] at ho; cases ho
  have fn : ∀ a, h.get? a = none → ∀ p, p ∈ fz → p.1 ≠ a := fun a ha p hp e => by
    refine cps fun PP kk => ?_
    obtain ⟨⟨o, ho, _⟩, _⟩ := D.fv p hp
    refine kk ?_
    clear kk PP
    rw [e, ha] at ho; cases ho
  refine ⟨tt, fun b o q => hm.keeps _ _ (D.keep b o q), fun p hp => ?_, fun p hp => ?_, ?_, fun p hp hq => ?_⟩
  · rcases List.mem_cons.mp hp with rfl | hp
    · exact ⟨⟨_, he, rfl, _, rfl, rfl, rfl⟩, bn _ hm.new⟩
    · obtain ⟨⟨o, ho, hq⟩, hb⟩ := D.lv p hp
      exact ⟨⟨o, hm.keeps _ _ ho, hq⟩, hb⟩
  · rcases List.mem_cons.mp hp with rfl | hp
    · exact ⟨⟨_, htt, rfl⟩, bn _ hnt⟩
    · obtain ⟨⟨o, ho, hq⟩, hb⟩ := D.fv p hp
      exact ⟨⟨o, hm.keeps _ _ ho, hq⟩, hb⟩
  · rw [List.map_cons, List.nodup_cons]
    exact ⟨ln _ hm.new, D.nd⟩
  · rw [List.map_cons] at hq
    rcases List.mem_cons.mp hp with rfl | hp
    · rcases List.mem_cons.mp hq with q | q
      · exact hne q.symm
      · exact ln _ hnt q
    · rcases List.mem_cons.mp hq with q | q
      · exact fn _ hm.new p hp q
      · exact D.sp p hp q

theorem lookup_liter_len : typeLookup (.type "list_iterator") "__len__" = pure none := by rw [typeLookup_type, builtinLookup_eq_fast]; kernel_rfl
theorem len_tape {Q : Value → Shared → Prop} {it l : Addr} {n i : Nat} (hh : A.handled = none) (D : Led B h live fz) (hm : (it, TapeP l n i) ∈ live)
    (hE : ∀ e a0 args h' t', Raw B h' live ((a0, TupP args) :: fz) e "TypeError" (.ref a0) → E (.ref e) ⟨h', g, d, t', os⟩) : wpAny (model prog w) A (call (.builtin "len") [.ref it]) Q E ⟨h, g, d, t, os⟩ := by
  obtain ⟨o, ho, hp⟩ := D.rd hm
  have hT := TapeP.typeIs (g := g) (d := d) (t := t) (os := os) ho hp
  refine PySem.Calls.call_function_entry (by decide +kernel) (by decide +kernel) entry_len (args_len1 _) ?_
  unfold Builtin.«len»
  refine wpAny_bind (m := oneArg "len" _) (wpAny_of_eq (a := Value.ref it) (by first | rfl | kernel_rfl!) ?_)
  refine wpAny_bind (wpAny_callSpecial?_none (name := Str.ofString "__len__") hT lookup_liter_len ?_)
  dsimp only
  refine wpAny_bind (wpAny_rule ?_)
  refine wpAny_bind (wpAny_typeNameOf' hT (by decide) ?_)
  refine wpAny_bind (wpAny_mkStr' ?_ (by decide +kernel))
  refine wpAny_bind (wpAny_newExc_plain plainExc_TypeError (fun h' e hm => ?_))
  refine wpAny_raiseNew_none hh ?_
  obtain ⟨a0, D'⟩ := made_raw D hm
  exact hE e a0 _ h' _ D'

theorem iter_call {Q : Value → Shared → Prop} {it l : Addr} {n i : Nat} (D : Led B h live fz) (hm : (it, TapeP l n i) ∈ live) (hq : Q (.ref it) ⟨h, g, d, t, os⟩) : wpAny (model prog w) A (call (.builtin "iter") [.ref it]) Q E ⟨h, g, d, t, os⟩ := by
  refine PySem.Calls.call_function_entry (by decide +kernel) (by decide +kernel) kdk_entry_iter (kdk_args_iter _) ?_
  unfold Builtin.«iter»
  refine wpAny_bind (m := someArgs "iter" 1 2 _) (wpAny_of_eq (a := [Value.ref it]) (by first | rfl | kernel_rfl!) ?_)
  dsimp only
  exact wpAny_bind (iter_tape D hm (wpAny_pure ⟨_, rfl, hq⟩))
theorem sub_type_base : isSubtype (.type "TypeError") (.type "BaseException") = pure true := by rw [isSubtype_type]; kernel_rfl
theorem sub_attr_base : isSubtype (.type "AttributeError") (.type "BaseException") = pure true := by rw [isSubtype_type]; kernel_rfl
theorem sub_type_tup : isSubtype (.type ((Manifest.find? "TypeError").elim "type" fun x => x.metatype)) (.type "tuple") = pure false := by rw [isSubtype_type]; kernel_rfl
theorem sub_attr_tup : isSubtype (.type ((Manifest.find? "AttributeError").elim "type" fun x => x.metatype)) (.type "tuple") = pure false := by rw [isSubtype_type]; kernel_rfl
theorem sub_type_type : isSubtype (.type "TypeError") (.type "TypeError") = pure true := by rw [isSubtype_type]; kernel_rfl
theorem sub_type_attr : isSubtype (.type "TypeError") (.type "AttributeError") = pure false := by rw [isSubtype_type]; kernel_rfl

theorem nsm_head {Q : Flow → Shared → Prop} {nl c kf tp kc L f : Addr} {cdv : Value} {ns : List Int} {K : (Obj → Prop) → List Ent} {i : Nat} {n : Int} {tn : Tok} {outer : List Env} (S : Stat B mg mb fa) (T : Tape fz nl c kf tp ns) (hkc : (kc, CellP (.ref kf)) ∈ fz)
    (hK : ∀ P P', Put tp P P' (K P) (K P')) (D : Led B h ((L, FrameP [(sN, .int n tn), (sIterable, .ref tp)]) :: K (TapeP nl ns.length i)) fz) (hn1 : n ≠ 1)
    (hh : A.handled = none) (hfr : A.frames = some (nsmEnv kc L f cdv :: outer)) (hF : ∀ P, FrOk (K P) outer)
    (hq : ∀ h' t', Led B h' ((L, FrameP [(sN, .int n tn), (sIterable, .ref tp), (sIt, .ref tp)]) :: K (TapeP nl ns.length i)) fz → wpAny (model prog w) A (execs ((bodyOf (stmtAt 5)).drop 4) (nsmEnv kc L f cdv)) Q E ⟨h', g, d, t', os⟩) :
    wpAny (model prog w) A (execs (bodyOf (stmtAt 5)) (nsmEnv kc L f cdv)) Q E ⟨h, g, d, t, os⟩ := by
  have hFr : ∀ P, FrOk ((L, FrameP [(sN, .int n tn), (sIterable, .ref tp)]) :: K P) (nsmEnv kc L f cdv :: outer) := by
    intro P env he
    rcases List.mem_cons.mp he with rfl | he
    · exact ⟨show (scopeOf (stmtAt 5)).kind ≠ .module by decide +kernel, L, _, rfl, .head _⟩
    · obtain ⟨hk, L', kvs', hf, hm⟩ := hF P env he
      exact ⟨hk, L', kvs', hf, .tail _ hm⟩
  walk_at "if"
  refine wpAny_isTrue_Compare1 ?_
  walk_at "nl"
  walk_at "ci"
  refine eq_int (wpAny_truthy_bool ?_)
  rw [show (n == 1) = false by simpa using hn1]
  refine wpAny_execs_nil ?_
  refine wpAny_execs_cons ?_
  refine wpAny_Try_except ?_
  walk_at "as"
  refine Call_ ?_
  walk_at "nb"
  refine PyProof.Rows.callWith_builtin1 ?_
  refine args_cons ?_
  walk_at "nl"
  refine args_nil ?_
  refine len_tape hh D (.tail _ (hK _ (LListP [])).mem) ?_
  intro e a0 args h1 t1 D1
  refine note_raw hfr (hFr _) rfl D1 (fun h2 D2 => ?_)
  refine set_flight D2 (fun h3 D3 => ?_)
  obtain ⟨Tb, D3⟩ := D3
  have D4 : Led B h3 ((L, FrameP [(sN, .int n tn), (sIterable, .ref tp)]) :: (e, ExcP "TypeError" (.ref a0) (.ref Tb)) :: (Tb, TbP .none) :: K (TapeP nl ns.length i)) ((a0, TupP args) :: fz) := by
    refine D3.perm ?_
    exact (List.Perm.swap _ _ _).trans ((List.Perm.swap _ _ _).cons _)
  refine wpAny_handleBy_tup2 sub_type_base sub_type_tup sub_attr_base sub_attr_tup sub_type_type sub_type_attr ?_
  refine Tuple_ ?_
  refine args_cons ?_
  walk_at "nb"
  refine args_cons ?_
  walk_at "nb"
  refine args_nil ?_
  refine mk_tuple D4 (by show 2 ≤ sizeLine; decide) (fun tu h5 D5 => ?_)
  refine cps fun PP kk => ?_
  obtain ⟨oe, hoe, hce, _⟩ := D5.rd (a := e) (by walk_at "mem")
  refine kk ?_
  clear kk PP
  refine ⟨tu, rfl, D5.tup (by walk_at "mem"), ⟨oe, hoe, hce⟩, ?_⟩
  show wpAny _ _ (setFlight (.ref e) none) _ _ _
  have D6 : Fly B h5 ((L, FrameP [(sN, .int n tn), (sIterable, .ref tp)]) :: (tu, TupP [.type "TypeError", .type "AttributeError"]) :: K (TapeP nl ns.length i)) ((a0, TupP args) :: fz) e "TypeError" (.ref a0) .none := by
    refine ⟨Tb, D5.perm ?_⟩
    exact (List.perm_append_comm (l₁ := [(e, ExcP "TypeError" (.ref a0) (.ref Tb)), (Tb, TbP .none)]) (l₂ := [(L, FrameP [(sN, .int n tn), (sIterable, .ref tp)]), (tu, TupP [.type "TypeError", .type "AttributeError"])])).append_right _
  refine set_flight D6 (fun h7 D7 => ?_)
  obtain ⟨Tb', D7⟩ := D7
  have D8 : Led B h7 ((L, FrameP [(sN, .int n tn), (sIterable, .ref tp)]) :: K (TapeP nl ns.length i)) fz := (D7.drop.drop.drop2).sub (List.Sublist.refl _) fun _ hp => .tail _ hp
  refine wpAny_execs_cons ?_
  refine wpAny_Pass ?_
  refine wpAny_execs_nil ?_
  walk_at "if"
  refine wpAny_isTrue_Compare1 ?_
  refine wpAny_Name (ld_cell D8 (.inr hkc) (by rfl) (by rfl) (.inl (by rfl)) ?_) (by decide)
  refine k_none ?_
  refine is_none_ne (by intro x; cases x) (wpAny_truthy_bool ?_)
  refine wpAny_execs_nil ?_
  walk_at "as"
  refine Call_ ?_
  walk_at "nb"
  refine PyProof.Rows.callWith_builtin1 ?_
  refine args_cons ?_
  walk_at "nl"
  refine args_nil ?_
  refine iter_call D8 (.tail _ (hK _ (LListP [])).mem) ?_
  walk_at "st"
  intro h9 t9 D9
  exact hq h9 t9 D9

theorem nsm_enter {Q : Value → Shared → Prop} {n : Int} {tn : Tok} {tp kf : Addr} (S : Stat B mg mb fa) (D : Led B h live fz) (hroom : A.depth < recursionLimit)
    (k : ∀ kc L cdv h' t', Led B h' ((L, FrameP [(sN, .int n tn), (sIterable, .ref tp)]) :: live) ((kc, CellP (.ref kf)) :: fz) →
      wpAny (model prog w) (A.deeper (nsmEnv kc L (fa 5) cdv)) (execs (bodyOf (stmtAt 5)) (nsmEnv kc L (fa 5) cdv))
        (fun fl s' => Q (match fl with | .ret v => v | _ => .none) s')
        (fun e s' => wpAny (model prog w) (A.deeper (nsmEnv kc L (fa 5) cdv)) (leaving (nsmEnv kc L (fa 5) cdv) e) (fun _ s'' => E e s'') (fun e' s'' => E e' s'') s')
        ⟨h', g, d, t', os⟩) :
    wpAny (model prog w) A (call (.ref (fa 5)) [.int n tn, .ref tp] [(Str.ofString "key", .ref kf)]) Q E ⟨h, g, d, t, os⟩ := by
  refine cps fun PP kk => ?_
  obtain ⟨hg, dt, ⟨o, kV, doc, pm, an, cdv, ct, ho, hd, hc⟩, od, nd, hod, hdd⟩ := S.nsm
  refine kk ?_
  clear kk PP
  refine wpAny_call (codeAny_call_function (s := ⟨h, g, d, t, os⟩) (fd := fdOf 5 (Str.ofString "nsmallest") (.ref dt) kV doc pm an cdv ct) (body := bodyOf (stmtAt 5)) hroom (D.keep _ _ ho) hd (by rfl) (by rfl) rfl (hc.keeps D.keep) ?_)
  have hb : BindsTo ⟨h, g, d, t, os⟩ (fdOf 5 (Str.ofString "nsmallest") (.ref dt) kV doc pm an cdv ct) ⟨[.int n tn, .ref tp], [(Str.ofString "key", .ref kf)]⟩ [(sN, .int n tn), (sIterable, .ref tp), (Str.ofString "key", .ref kf)] :=
    BindsTo.of_defaults (T := dt) (items := #[.none]) rfl (D.keep _ _ hod) hdd (by rfl) (by rfl)
  refine hb _ _ _ _ ?_
  refine wpAny_newFunctionEnv_cells (by rfl) ?_ fun env he s' x => ?_
  · intro x hx
    rcases List.mem_cons.mp hx with rfl | hx
    · exact .inl rfl
    rcases List.mem_cons.mp hx with rfl | hx
    · exact .inl rfl
    cases List.mem_singleton.mp hx
    exact .inr ⟨rfl, rfl⟩
  · subst he
    have hcells : cellsFrom (h.objs.size + 1) (scopeOf (stmtAt 5)).names [] = [(Str.ofString "key", h.objs.size + 1)] := by rfl
    refine cps fun PP kk => ?_
    obtain ⟨⟨⟨h₀, tk, rfl⟩, hns, hkp, _⟩, hcell, _, _⟩ := x
    refine kk ?_
    clear kk PP
    have hns' : h₀.Ns h.objs.size (bindL (nsmEnv (h.objs.size + 1) h.objs.size (fa 5) cdv).kindOf [(sN, .int n tn), (sIterable, .ref tp), (Str.ofString "key", .ref kf)] fun _ => none) := hns
    have hc1 : h₀.IsCell (h.objs.size + 1) (some (.ref kf)) := hcell (Str.ofString "key") (h.objs.size + 1) (by rfl)
    have D' : Led B h₀ ((h.objs.size, FrameP [(sN, .int n tn), (sIterable, .ref tp)]) :: live) ((h.objs.size + 1, CellP (.ref kf)) :: fz) := by
      obtain ⟨oL, hoL, hpL⟩ := FrameP.of_ns (kvs := [(sN, .int n tn), (sIterable, .ref tp)]) hns' fun y v e => by
        simp only [aget] at e
        by_cases e1 : y = sN
        · rw [if_pos e1] at e; subst e1; cases e; rfl
        · rw [if_neg e1] at e
          by_cases e2 : y = sIterable
          · rw [if_pos e2] at e; subst e2; cases e; rfl
          · rw [if_neg e2] at e; cases e
      obtain ⟨oc, hoc, hpc⟩ := hc1
      have fresh : ∀ a, h.objs.size ≤ a → B.get? a = none := fun a ha => by
        cases q : B.get? a with
        | none => rfl
        | some o => exact absurd (Heap.lt_size (D.keep _ _ q)) (Nat.not_lt.mpr ha)
      refine ⟨fun b o e => hkp b o (D.keep b o e), fun p hp => ?_, fun p hp => ?_, ?_, fun p hp hq => ?_⟩
      · rcases List.mem_cons.mp hp with rfl | hp
        · exact ⟨⟨oL, hoL, hpL⟩, D.base_none⟩
        · obtain ⟨⟨o', e, q⟩, z⟩ := D.lv p hp
          exact ⟨⟨o', hkp _ _ e, q⟩, z⟩
      · rcases List.mem_cons.mp hp with rfl | hp
        · exact ⟨⟨oc, hoc, hpc⟩, fresh _ (Nat.le_succ _)⟩
        · obtain ⟨⟨o', e, q⟩, z⟩ := D.fv p hp
          exact ⟨⟨o', hkp _ _ e, q⟩, z⟩
      · rw [List.map_cons, List.nodup_cons]
        refine ⟨fun hq => ?_, D.nd⟩
        refine cps fun PP kk => ?_
        obtain ⟨p, hp', e⟩ := List.mem_map.mp hq
        obtain ⟨⟨o', e', _⟩, _⟩ := D.lv p hp'
        refine kk ?_
        clear kk PP
        exact absurd (Heap.lt_size e') (by rw [e]; exact Nat.lt_irrefl _)
      · rw [List.map_cons] at hq
        have hlt : ∀ p, p ∈ live → p.1 < h.objs.size := fun p hp => let ⟨⟨_, e', _⟩, _⟩ := D.lv p hp; Heap.lt_size e'
        rcases List.mem_cons.mp hp with rfl | hp
        · rcases List.mem_cons.mp hq with e | hq
          · exact absurd e (Nat.succ_ne_self _)
          · obtain ⟨p, hp', e⟩ := List.mem_map.mp hq
            have := hlt p hp'
            rw [e] at this
            exact absurd this (Nat.not_lt.mpr (Nat.le_succ _))
        · rcases List.mem_cons.mp hq with e | hq
          · obtain ⟨⟨o', e', _⟩, _⟩ := D.fv p hp
            exact absurd (Heap.lt_size e') (by rw [e]; exact Nat.lt_irrefl _)
          · exact D.sp p hp hq
    exact ⟨(S.lim.keeps D.keep).keeps hkp, codeAny_func (k (h.objs.size + 1) h.objs.size cdv h₀ tk D')⟩
end
end

section
/-! ## nsmallest, but for n = 1 -/
theorem Run.nil_inv {ns : List Int} {i j : Nat} {recs : List Rec} (r : Run ns i recs j) (h : recs = []) : j = i := by
  cases r with
  | nil => rfl
  | snoc _ _ _ _ => simp at h

section
variable {prog : Program} {w : World} {A : Around} {Q E : Value → Shared → Prop} {B h : Heap} {fz : List Ent} {g : Array GenState} {d : Drawn} {t : Nat} {os : OsState} {mg mb : Str → Option Value} {fa : Nat → Addr}

theorem nsm_call {nl c kf tp : Addr} {ns : List Int} {K : (Obj → Prop) → List Ent} {i : Nat} {n : Int} {tn : Tok} {outer : List Env} (S : Stat B mg mb fa) (T : Tape fz nl c kf tp ns)
    (hK : ∀ P P', Put tp P P' (K P) (K P')) (D : Led B h (K (TapeP nl ns.length i)) fz) (hi : i ≤ ns.length) (hn1 : n ≠ 1)
    (hb1 : -(2 ^ 62) ≤ n) (hb2 : n < 2 ^ 62) (hnl : ns.length < 2 ^ 20) (h64 : n.toNat < 64 ∨ ns.length < i + 64)
    (hh : A.handled = none) (hd : A.depth + 6 < recursionLimit) (hu : A.units + 80 < cLine) (hfr : A.frames = some outer) (hF : ∀ P, FrOk (K P) outer)
    (hnone : n ≤ 0 → ∀ rl fz' h' t', (∀ p, p ∈ fz → p ∈ fz') → IsInts fz' (.ref rl) [] → Led B h' (K (TapeP nl ns.length i)) fz' → Q (.ref rl) ⟨h', g, d, t', os⟩)
    (hok : 0 < n → ∀ recs heads rl fz' h' t', (∀ p, p ∈ fz → p ∈ fz') → Run ns i recs ns.length → (recs = [] ∧ heads = [] ∨ Sel n recs heads) → IsInts fz' (.ref rl) heads → Led B h' (K (TapeP nl ns.length ns.length)) fz' → Q (.ref rl) ⟨h', g, d, t', os⟩)
    (hcut : 0 < n → ∀ recs j e a0 fz' h' t', (∀ p, p ∈ fz → p ∈ fz') → Run ns i recs j → (hj : j < ns.length) → ns.length < j + 1 + rOf ns[j] →
      Fly B h' (K (TapeP nl ns.length ns.length)) fz' e "StopIteration" a0 .none → E (.ref e) ⟨h', g, d, t', os⟩)
    (hsp : 0 < n → ∀ recs j tx e a0 rv fz' h' t', (∀ p, p ∈ fz → p ∈ fz') → Run ns i recs j → (hj : j < ns.length) → j + 1 + rOf ns[j] ≤ ns.length → spoilt ns[j] = true → (a0, TupP [.int ns[j] tx, rv]) ∈ fz' → IsInts fz' rv (restOf ns (j + 1) ns[j]) →
      Fly B h' (K (TapeP nl ns.length (j + 1 + rOf ns[j]))) fz' e "ValueError" (.ref a0) .none → E (.ref e) ⟨h', g, d, t', os⟩) :
    wpAny (model prog w) A (call (.ref (fa 5)) [.int n tn, .ref tp] [(Str.ofString "key", .ref kf)]) Q E ⟨h, g, d, t, os⟩ := by
  refine nsm_enter S D (by omega) (fun kc L cdv h1 t1 D1 => ?_)
  have hfr' : (A.deeper (nsmEnv kc L (fa 5) cdv)).frames = some (nsmEnv kc L (fa 5) cdv :: outer) := by show (A.frames.map _) = _; rw [hfr]; rfl
  have hsub1 : ∀ p, p ∈ fz → p ∈ (kc, CellP (.ref kf)) :: fz := fun p hp => .tail _ hp
  have T1 := T.mono hsub1
  refine nsm_head S T1 (.head _) hK D1 hn1 hh hfr' hF (fun h2 t2 D2 => ?_)
  refine nsm_fill S T1 (.head _) hK D2 hi hb1 hb2 hnl hh (by show A.depth + 1 + 2 < recursionLimit; omega) hfr' hF ?_ ?_ ?_
  · intro recs j rl items fz3 h3 t3 hsub3 hrun hle hfull hnum htri D3
    refine nsm_tail S (T1.mono hsub3) (hsub3 _ (.head _)) hK hrun hi hnl h64 hle hfull hnum htri D3 hh (by show A.depth + 1 + 4 < recursionLimit; omega) (by show A.units + 3 + 60 < cLine; omega) hfr' hF ?_ ?_ ?_ ?_
    · intro he h4 t4 D4
      subst he
      have ej0 := hrun.nil_inv rfl
      rw [ej0] at D4 hfull
      by_cases hn : n ≤ 0
      · exact hnone hn rl _ h4 t4 (fun p hp => .tail _ (hsub3 _ (hsub1 _ hp))) ⟨rl, [], rfl, .head _, .nil⟩ D4
      · have ej : i = ns.length := by
          rcases hfull with e | e
          · simp at e; omega
          · exact e
        rw [ej] at D4
        exact hok (by omega) [] [] rl _ h4 t4 (fun p hp => .tail _ (hsub3 _ (hsub1 _ hp))) (by rw [ej]; exact .nil) (.inl ⟨rfl, rfl⟩) ⟨rl, [], rfl, .head _, .nil⟩ D4
    · intro recs' heads vs rl' fz4 h4 t4 hsub4 hrun4 hsel hvs hm D4
      have hn : 0 < n := by
        refine cps fun PP kk => ?_
        obtain ⟨items, order, items', H, _⟩ := hsel
        refine kk ?_
        clear kk PP
        have := H.length
        omega
      exact hok hn recs' heads rl' fz4 h4 t4 (fun p hp => hsub4 _ (hsub3 _ (hsub1 _ hp))) hrun4 (.inr hsel) ⟨rl', vs, rfl, hm, hvs⟩ D4
    · intro hn recs' j' e a0 kvs fz4 h4 t4 hsub4 hrun4 hj hc D4
      refine leave_own rfl D4 fun h5 D5 => ?_
      exact hcut hn recs' j' e a0 fz4 h5 _ (fun p hp => hsub4 _ (hsub3 _ (hsub1 _ hp))) hrun4 hj hc (D5.sub (List.sublist_cons_self _ _) fun _ hp => hp)
    · intro hn recs' j' tx e a0 rv kvs fz4 h4 t4 hsub4 hrun4 hj hle4 hs ha hr D4
      refine leave_own rfl D4 fun h5 D5 => ?_
      exact hsp hn recs' j' tx e a0 rv fz4 h5 _ (fun p hp => hsub4 _ (hsub3 _ (hsub1 _ hp))) hrun4 hj hle4 hs ha hr (D5.sub (List.sublist_cons_self _ _) fun _ hp => hp)
  · intro recs' j' e a0 fz4 h4 t4 hsub4 hrun4 hlt hj hc D4
    refine leave_own rfl D4 fun h5 D5 => ?_
    exact hcut (by omega) recs' j' e a0 fz4 h5 _ (fun p hp => hsub4 _ (hsub1 _ hp)) hrun4 hj hc (D5.sub (List.sublist_cons_self _ _) fun _ hp => hp)
  · intro recs' j' tx e a0 rv fz4 h4 t4 hsub4 hrun4 hlt hj hle4 hs ha hr D4
    refine leave_own rfl D4 fun h5 D5 => ?_
    exact hsp (by omega) recs' j' tx e a0 rv fz4 h5 _ (fun p hp => hsub4 _ (hsub1 _ hp)) hrun4 hj hle4 hs ha hr (D5.sub (List.sublist_cons_self _ _) fun _ hp => hp)
end
end

section
/-! ## nsmallest for n = 1 -/
theorem lookup_object_new : typeLookup (.type "object") "__new__" = pure (some (.builtin "object.__new__")) := by rw [typeLookup_type, builtinLookup_eq_fast]; kernel_rfl
theorem mro_object : mroOf (.type "object") = pure [.type "object"] := by kernel_rfl
theorem called_object : TypeCalled "object" "object.__new__" "object.__init__" :=
  ⟨by decide +kernel, by decide +kernel, ⟨_, _, mro_object⟩, madeBy_type mro_object lookup_object_new (by decide +kernel), by decide +kernel, by rw [isSubtype_type]; kernel_rfl, F.slot_object_init⟩
set_option maxRecDepth 100000 in
theorem object_new : Meets (Builtin.«object.__new__» ⟨[.type "object"], []⟩) (fun _ R s => R (.ok (.ret (.ref s.heap.objs.size))) { s with heap := s.heap.push { cls := .type "object", data := .plain } }) :=
  .of_wp fun prog w A R s hs => by
    refine cps fun PP kk => ?_
    obtain ⟨hp, g, d, tk, os⟩ := s
    refine kk ?_
    clear kk PP
    have hmade := called_object.made
    have hmro := mro_object
    unfold Builtin.«object.__new__»
    wp_walk
    exact ⟨_, rfl, hs⟩

section
variable {prog : Program} {w : World} {A : Around} {E : Value → Shared → Prop} {B h : Heap} {live fz : List Ent} {g : Array GenState} {d : Drawn} {t : Nat} {os : OsState} {mg mb : Str → Option Value} {fa : Nat → Addr}

theorem mk_object {Q : Value → Shared → Prop} (D : Led B h live fz) (hq : ∀ a h', Led B h' live fz → Q (.ref a) ⟨h', g, d, t, os⟩) : wpAny (model prog w) A (call (.type "object") []) Q E ⟨h, g, d, t, os⟩ := by
  refine callType_meets (Q₁ := fun obj s₁ => obj = .ref h.objs.size ∧ s₁ = ⟨h.push { cls := .type "object", data := .plain }, g, d, t, os⟩) called_object (by kernel_rfl) (by kernel_rfl) F.entry_object_new F.entry_object_init object_new ⟨rfl, rfl⟩ ?_
  rintro obj s₁ ⟨rfl, rfl⟩
  refine ⟨⟨_, Heap.get?_push_size _ rfl, rfl⟩, F.args_object_init_1 _, (fun _ R s => R (.ok (.ret .none)) s), .of_wp fun prog w A R s hs => wpAny_pure ⟨_, rfl, hs⟩, ?_⟩
  exact ⟨rfl, hq _ _ (D.skip rfl)⟩

theorem seq_set {Q : Unit → Shared → Prop} {live' : List Ent} {S : Addr} {xs ys : List Value} (D : Led B h live fz) (u : Put S (LListP xs) (LListP ys) live live') (hx : xs.length ≤ 2) (hy : ys.length ≤ 2)
    (hq : ∀ h', Led B h' live' fz → Q () ⟨h', g, d, t, os⟩) : wpAny (model prog w) A (updateSeq S fun _ => ys.toArray) Q E ⟨h, g, d, t, os⟩ := by
  refine cps fun PP kk => ?_
  obtain ⟨o, ho, m, rfl⟩ := D.rd u.mem
  refine kk ?_
  clear kk PP
  refine wpAny_updateSeq (s := ⟨h, g, d, t, os⟩) ho rfl (hq _ (D.upd u ho ?_ rfl)) (by simp [sizeLine_eq]; omega) (by simp [sizeLine_eq]; omega)
  exact ⟨_, rfl⟩

theorem min_turn {R : Result → Shared → Prop} {nl c kf tp S : Addr} {dflt : Value} {ns : List Int} {K : (Obj → Prop) → List Ent} {i : Nat} {outer : List Env} {best : List Value} (St : Stat B mg mb fa) (T : Tape fz nl c kf tp ns)
    (hK : ∀ P P', Put tp P P' (K P) (K P')) (D : Led B h ((S, LListP best) :: K (TapeP nl ns.length i)) fz) (hi : i < ns.length) (hbest : best = [] ∨ ∃ x v k, best = [x, v] ∧ IsInts fz v k)
    (hh : A.handled = none) (hd : A.depth + 3 < recursionLimit) (hu : A.units + 10 < cLine) (hfr : A.frames = some outer) (hF : ∀ P, FrOk (K P) outer)
    (hle : i + 1 + rOf ns[i] ≤ ns.length)
    (hok : spoilt ns[i] = false → ∀ best' fz' h' t', (∀ p, p ∈ fz → p ∈ fz') → (∃ x v k, best' = [x, v] ∧ IsInts fz' v k) → Led B h' ((S, LListP best') :: K (TapeP nl ns.length (i + 1 + rOf ns[i]))) fz' →
      codeAny (model prog w) A (.builtin "min.loop" ⟨[.ref tp, .ref kf, .ref S], [(Str.ofString "default", dflt)]⟩) R ⟨h', g, d, t', os⟩)
    (hsp : spoilt ns[i] = true → ∀ tx e a0 rv fz' h' t', (∀ p, p ∈ fz → p ∈ fz') → (a0, TupP [.int ns[i] tx, rv]) ∈ fz' → IsInts fz' rv (restOf ns (i + 1) ns[i]) →
      Fly B h' (K (TapeP nl ns.length (i + 1 + rOf ns[i]))) fz' e "ValueError" (.ref a0) .none → R (.error (.ref e)) ⟨h', g, d, t', os⟩) :
    codeAny (model prog w) A (.builtin "min.loop" ⟨[.ref tp, .ref kf, .ref S], [(Str.ofString "default", dflt)]⟩) R ⟨h, g, d, t, os⟩ := by
  have hname : (toString "min" ++ toString ".loop" : String) = "min.loop" := by decide
  obtain ⟨nvs, hnlm, hnv⟩ := T.nums
  have hlen := IntsAre.len hnv
  obtain ⟨tv, hv⟩ := ints_get hnv i hi
  have hbl : best.length ≤ 2 := by
    rcases hbest with rfl | ⟨x, v, k, rfl, _⟩ <;> simp
  refine cps fun PP kk => ?_
  obtain ⟨o, ho, m, rfl⟩ := D.rd (.head _)
  refine kk ?_
  clear kk PP
  refine codeAny_builtin PySem.F.entry_min_loop ?_
  rw [Around.under_plainId PySem.F.plain_min_loop _]
  show wpAny _ A.in1 (seqItems? (.ref S) >>= _) _ _ _
  refine wpAny_bind (wpAny_seqItems (s := ⟨h, g, d, t, os⟩) ho rfl ?_)
  show wpAny _ A.in1 (tryCatch (pyNext (.ref tp)) _ >>= _) _ _ _
  refine wpAny_bind (wpAny_tryCatch (next_tape hlen D (.there (hK _ _)) (D.flist hnlm) hv fun h1 D1 => ?_))
  show wpAny _ A.in1 (tryCatch (holding [.int ns[i] tv] (call (.ref kf) [.int ns[i] tv])) _ >>= _) _ _ _
  refine wpAny_bind (wpAny_tryCatch (wpAny_holding ?_))
  refine key_call (ns := ns) (nl := nl) (c := c) (i := i + 1) (outer := outer) (K := fun P => (S, LListP best) :: K P) St T (fun P P' => .there (hK P P')) D1 (by omega) hh (by show A.depth + 2 < recursionLimit; omega) hfr ?_ ?_ ?_ ?_
  · intro P env he
    refine cps fun PP kk => ?_
    obtain ⟨hk, L', kvs', hf, hm⟩ := hF P env he
    refine kk ?_
    clear kk PP
    exact ⟨hk, L', kvs', hf, .tail _ hm⟩
  · intro hc
    omega
  · intro _ hs e a0 rv fz2 h2 t2 hsub ha hr D2
    obtain ⟨Tb, D2⟩ := D2
    show wpAny _ A.in1 (updateSeq S (fun _ => ([] : List Value).toArray) >>= _) _ _ _
    refine wpAny_bind (seq_set D2 (.there (.there .here)) hbl (by simp) fun h3 D3 => ?_)
    refine wpAny_bind (wpAny_letGo ?_)
    refine wpAny_throw ?_
    exact hsp hs tv e a0 rv fz2 h3 _ hsub ha hr ⟨Tb, D3.sub (((List.sublist_cons_self _ _).cons_cons _).cons_cons _) fun _ hp => hp⟩
  · intro _ hs rv fz2 h2 t2 hsub hr D2
    have next := hok hs
    rcases hbest with rfl | ⟨x, v, k, rfl, hvk⟩
    · show wpAny _ A.in1 (updateSeq S (fun _ => [.int ns[i] tv, rv].toArray) >>= _) _ _ _
      refine wpAny_bind (seq_set D2 .here (by simp) (by simp) fun h3 D3 => ?_)
      rw [hname]
      exact wpAny_pure ⟨plainId_quiet PySem.F.plain_min_loop _, next _ fz2 h3 _ hsub ⟨_, _, _, rfl, hr⟩ D3⟩
    · show wpAny _ A.in1 (tryCatch (holding [.int ns[i] tv, rv] (richCompare .Lt rv v >>= _)) _ >>= _) _ _ _
      refine wpAny_bind (wpAny_tryCatch (wpAny_holding (wpAny_bind (ltAt_ints D2 hr (hvk.mono hsub) (by show A.units + 1 < cLine; omega) _ _ _ _ ?_))))
      refine wpAny_bind (wpAny_holding (wpAny_truthy_bool ?_))
      refine wpAny_bind (wpAny_letGo (wpAny_pure ?_))
      cases ilt (restOf ns (i + 1) ns[i]) k with
      | true =>
        simp only [if_true]
        show wpAny _ A.in1 (updateSeq S (fun _ => [.int ns[i] tv, rv].toArray) >>= _) _ _ _
        refine wpAny_bind (seq_set D2 .here (by simp) (by simp) fun h3 D3 => ?_)
        refine wpAny_bind (wpAny_letGo ?_)
        rw [hname]
        exact wpAny_pure ⟨plainId_quiet PySem.F.plain_min_loop _, next _ fz2 h3 _ hsub ⟨_, _, _, rfl, hr⟩ D3⟩
      | false =>
        simp only [Bool.false_eq_true, if_false]
        refine wpAny_bind (wpAny_letGo ?_)
        rw [hname]
        exact wpAny_pure ⟨plainId_quiet PySem.F.plain_min_loop _, next _ fz2 h2 _ hsub ⟨_, _, _, rfl, hvk.mono hsub⟩ D2⟩

theorem min_turn' {R : Result → Shared → Prop} {nl c kf tp S : Addr} {dflt : Value} {ns : List Int} {K : (Obj → Prop) → List Ent} {i i' : Nat} {x : Int} {rs : List Int} {outer : List Env} {best : List Value} (St : Stat B mg mb fa) (T : Tape fz nl c kf tp ns)
    (hK : ∀ P P', Put tp P P' (K P) (K P')) (D : Led B h ((S, LListP best) :: K (TapeP nl ns.length i)) fz) (hx : ns[i]? = some x) (hi' : i + 1 + rOf x = i') (hrs : restOf ns (i + 1) x = rs) (hbest : best = [] ∨ ∃ x v k, best = [x, v] ∧ IsInts fz v k)
    (hh : A.handled = none) (hd : A.depth + 3 < recursionLimit) (hu : A.units + 10 < cLine) (hfr : A.frames = some outer) (hF : ∀ P, FrOk (K P) outer)
    (hle : i' ≤ ns.length)
    (hok : spoilt x = false → ∀ best' fz' h' t', (∀ p, p ∈ fz → p ∈ fz') → (∃ x v k, best' = [x, v] ∧ IsInts fz' v k) → Led B h' ((S, LListP best') :: K (TapeP nl ns.length i')) fz' →
      codeAny (model prog w) A (.builtin "min.loop" ⟨[.ref tp, .ref kf, .ref S], [(Str.ofString "default", dflt)]⟩) R ⟨h', g, d, t', os⟩)
    (hsp : spoilt x = true → ∀ tx e a0 rv fz' h' t', (∀ p, p ∈ fz → p ∈ fz') → (a0, TupP [.int x tx, rv]) ∈ fz' → IsInts fz' rv rs →
      Fly B h' (K (TapeP nl ns.length i')) fz' e "ValueError" (.ref a0) .none → R (.error (.ref e)) ⟨h', g, d, t', os⟩) :
    codeAny (model prog w) A (.builtin "min.loop" ⟨[.ref tp, .ref kf, .ref S], [(Str.ofString "default", dflt)]⟩) R ⟨h, g, d, t, os⟩ := by
  obtain ⟨hi, rfl⟩ := List.getElem?_eq_some_iff.mp hx
  subst hi' hrs
  exact min_turn St T hK D hi hbest hh hd hu hfr hF hle hok hsp

theorem min_args (a v u : Value) : argsOk "min" ⟨[a], [(Str.ofString "default", u), (Str.ofString "key", v)]⟩ := by unfold argsOk; kernel_rfl

theorem nsm_call1 {Q : Value → Shared → Prop} {nl c kf tp : Addr} {ns r : List Int} {K : (Obj → Prop) → List Ent} {tn : Tok} {outer : List Env} (S : Stat B mg mb fa) (T : Tape fz nl c kf tp ns) (hpre : ns = 4 :: 9 :: 3 :: 7 :: 20 :: 12 :: r)
    (hK : ∀ P P', Put tp P P' (K P) (K P')) (D : Led B h (K (TapeP nl ns.length 0)) fz)
    (hh : A.handled = none) (hd : A.depth + 6 < recursionLimit) (hu : A.units + 80 < cLine) (hfr : A.frames = some outer) (hF : ∀ P, FrOk (K P) outer)
    (hsp : ∀ tx e a0 rv fz' h' t', (∀ p, p ∈ fz → p ∈ fz') → (a0, TupP [.int 12 tx, rv]) ∈ fz' → IsInts fz' rv [] →
      Fly B h' (K (TapeP nl ns.length 6)) fz' e "ValueError" (.ref a0) .none → E (.ref e) ⟨h', g, d, t', os⟩) :
    wpAny (model prog w) A (call (.ref (fa 5)) [.int 1 tn, .ref tp] [(Str.ofString "key", .ref kf)]) Q E ⟨h, g, d, t, os⟩ := by
  have hname : (toString "min" ++ toString ".loop" : String) = "min.loop" := by decide
  refine nsm_enter S D (by omega) (fun kc L cdv h1 t1 D1 => ?_)
  have hfr' : (A.deeper (nsmEnv kc L (fa 5) cdv)).frames = some (nsmEnv kc L (fa 5) cdv :: outer) := by show (A.frames.map _) = _; rw [hfr]; rfl
  have hsub1 : ∀ p, p ∈ fz → p ∈ (kc, CellP (.ref kf)) :: fz := fun p hp => .tail _ hp
  have T1 := T.mono hsub1
  walk_at "if"
  refine wpAny_isTrue_Compare1 ?_
  walk_at "nl"
  walk_at "ci"
  refine eq_int (wpAny_truthy_bool ?_)
  walk_at "as"
  refine Call_ ?_
  walk_at "nb"
  refine PyProof.Rows.callWith_builtin1 ?_
  refine args_cons ?_
  walk_at "nl"
  refine args_nil ?_
  refine iter_call D1 (.tail _ (hK _ (LListP [])).mem) ?_
  walk_at "st"
  intro h2 t2 D2
  walk_at "as"
  refine Call_ ?_
  walk_at "nb"
  refine callWith_type0 ?_
  refine mk_object D2 (fun sn h3 D3 => ?_)
  walk_at "st"
  intro h4 t4 D4
  walk_at "as"
  refine wpAny_Call_Name_kw ?_
  walk_at "nb"
  refine callWith_kw ?_
  refine args_cons ?_
  walk_at "nl"
  refine args_nil ?_
  refine kws_cons ?_
  walk_at "nl"
  refine kws_cons ?_
  refine wpAny_Name (ld_cell D4 (.inr (.head _)) (by rfl) (by rfl) (.inl (by rfl)) ?_) (by decide)
  refine kws_nil ?_
  show wpAny _ _ (call (.builtin "min") [.ref tp] [(Str.ofString "default", .ref sn), (Str.ofString "key", .ref kf)]) _ _ _
  refine kmk_tree PySem.F.kind_min PySem.F.plain_min PySem.F.entry_min (min_args _ _ _) ?_
  show wpAny _ (A.deeper (nsmEnv kc L (fa 5) cdv)).in1 (Builtin.Builtins.bindParams "min" ["key", "default"] 0 ⟨[], [(Str.ofString "default", .ref sn), (Str.ofString "key", .ref kf)]⟩ >>= _) _ _ _
  refine wpAny_bind (wpAny_of_eq (show Builtin.Builtins.bindParams "min" ["key", "default"] 0 ⟨[], [(Str.ofString "default", .ref sn), (Str.ofString "key", .ref kf)]⟩ = pure [some (.ref kf), some (.ref sn)] from rfl) ?_)
  refine wpAny_bind (wpAny_pure ?_)
  refine wpAny_bind (iter_tape D4 (.tail _ (hK _ (LListP [])).mem) ?_)
  refine wpAny_bind (mk_list D4 (by decide) fun Sb h5 D5 => ?_)
  rw [hname]
  refine wpAny_pure ⟨plainId_quiet PySem.F.plain_min_loop _, ?_⟩
  have D6 := D5.perm (List.Perm.swap _ _ _)
  have hFr : ∀ P, FrOk ((L, FrameP [(sN, .int 1 tn), (sIterable, .ref tp), (sIt, .ref tp), (Str.ofString "sentinel", .ref sn)]) :: K P) (nsmEnv kc L (fa 5) cdv :: outer) := by
    intro P env he
    rcases List.mem_cons.mp he with rfl | he
    · exact ⟨show (scopeOf (stmtAt 5)).kind ≠ .module by decide +kernel, L, _, rfl, .head _⟩
    · obtain ⟨hk, L', kvs', hf, hm⟩ := hF P env he
      exact ⟨hk, L', kvs', hf, .tail _ hm⟩
  have hlen6 : 6 ≤ ns.length := by rw [hpre]; simp
  have hdp : (A.deeper (nsmEnv kc L (fa 5) cdv)).depth + 3 < recursionLimit := by show A.depth + 1 + 3 < recursionLimit; omega
  have hup : (A.deeper (nsmEnv kc L (fa 5) cdv)).units + 10 < cLine := by show A.units + 3 + 10 < cLine; omega
  refine min_turn' (K := fun P => (L, FrameP [(sN, .int 1 tn), (sIterable, .ref tp), (sIt, .ref tp), (Str.ofString "sentinel", .ref sn)]) :: K P) (i := 0) (i' := 2) (x := 4) (rs := [9]) S T1 (fun P P' => .there (hK P P')) D6 (by rw [hpre]; rfl) (by decide) (by rw [hpre]; rfl) (.inl rfl) hh hdp hup hfr' hFr (by omega) ?_ (fun hs => absurd hs (by decide))
  intro _ best1 fz1 h6 t6 hs1 hb1 D7
  refine min_turn' (K := fun P => (L, FrameP [(sN, .int 1 tn), (sIterable, .ref tp), (sIt, .ref tp), (Str.ofString "sentinel", .ref sn)]) :: K P) (i := 2) (i' := 3) (x := 3) (rs := []) S (T1.mono hs1) (fun P P' => .there (hK P P')) D7 (by rw [hpre]; rfl) (by decide) (by rw [hpre]; rfl) (.inr hb1) hh hdp hup hfr' hFr (by omega) ?_ (fun hs => absurd hs (by decide))
  intro _ best2 fz2 h7 t7 hs2 hb2 D8
  refine min_turn' (K := fun P => (L, FrameP [(sN, .int 1 tn), (sIterable, .ref tp), (sIt, .ref tp), (Str.ofString "sentinel", .ref sn)]) :: K P) (i := 3) (i' := 5) (x := 7) (rs := [20]) S ((T1.mono hs1).mono hs2) (fun P P' => .there (hK P P')) D8 (by rw [hpre]; rfl) (by decide) (by rw [hpre]; rfl) (.inr hb2) hh hdp hup hfr' hFr (by omega) ?_ (fun hs => absurd hs (by decide))
  intro _ best3 fz3 h8 t8 hs3 hb3 D9
  refine min_turn' (K := fun P => (L, FrameP [(sN, .int 1 tn), (sIterable, .ref tp), (sIt, .ref tp), (Str.ofString "sentinel", .ref sn)]) :: K P) (i := 5) (i' := 6) (x := 12) (rs := []) S (((T1.mono hs1).mono hs2).mono hs3) (fun P P' => .there (hK P P')) D9 (by rw [hpre]; rfl) (by decide) (by rw [hpre]; rfl) (.inr hb3) hh hdp hup hfr' hFr (by omega) (fun hs => absurd hs (by decide)) ?_
  intro _ tx e a0 rv fz4 h9 t9 hs4 ha hr D10
  refine leave_fly hfr' (hFr _) rfl D10 fun h10 D11 => ?_
  exact hsp tx e a0 rv fz4 h10 _ (fun p hp => hs4 _ (hs3 _ (hs2 _ (hs1 _ (hsub1 _ hp))))) ha hr (D11.sub (List.sublist_cons_self _ _) fun _ hp => hp)
end
end

section
/-! ## _law_told -/
def CellE (o : Obj) : Prop := ∃ v, o.data = .cell v
structure ToldCode (B : Heap) (mg : Str → Option Value) (fa : Nat → Addr) (c0 P : Addr) : Prop where
  fn : ∃ o kV doc pm an ct, B.get? (fa 7) = some o ∧ o.data = .func (fdOf 7 (Str.ofString "_law_told") .none kV doc pm an (.ref c0) ct) ∧ B.CodeRec (.ref c0) (Str.ofString "_law_told")
  hd : CodeHd B c0 P
  bi : ∃ bm o, mg "__builtins__" = some (.ref bm) ∧ bm ≠ builtinsNs ∧ bm ≠ mainGlobals ∧ bm ≠ P ∧ B.get? bm = some o ∧ o.cls = .type "module" ∧ o.dict = some builtinsNs ∧ o.data = .plain
  gP : mainGlobals ≠ P
def TabP (o : Obj) : Prop := o = tabObj #[]
def GrownP (o : Obj) : Prop := ∃ ps, o = tabObj ps
abbrev toldEnv (c L f : Addr) (c0 : Addr) : Env := envAt 7 (Str.ofString "_law_told") [(Str.ofString "tape", c)] L f (.ref c0)

section
variable {prog : Program} {w : World} {A : Around} {E : Value → Shared → Prop} {B h : Heap} {live live' rest fz : List Ent} {g : Array GenState} {d : Drawn} {t : Nat} {os : OsState} {mg mb : Str → Option Value} {fa : Nat → Addr}

theorem told_enter {Q : Value → Shared → Prop} {nums wish : Value} {c0 P : Addr} (S : Stat B mg mb fa) (TC : ToldCode B mg fa c0 P) (D : Led B h live fz) (hroom : A.depth < recursionLimit)
    (k : ∀ c L h' t', Led B h' ((L, FrameP [(Str.ofString "numbers", nums), (Str.ofString "wish", wish)]) :: (c, CellE) :: live) fz →
      wpAny (model prog w) (A.deeper (toldEnv c L (fa 7) c0)) (execs (bodyOf (stmtAt 7)) (toldEnv c L (fa 7) c0))
        (fun fl s' => Q (match fl with | .ret v => v | _ => .none) s')
        (fun e s' => wpAny (model prog w) (A.deeper (toldEnv c L (fa 7) c0)) (leaving (toldEnv c L (fa 7) c0) e) (fun _ s'' => E e s'') (fun e' s'' => E e' s'') s')
        ⟨h', g, d, t', os⟩) :
    wpAny (model prog w) A (call (.ref (fa 7)) [nums, wish]) Q E ⟨h, g, d, t, os⟩ := by
  refine cps fun PP kk => ?_
  obtain ⟨o, kV, doc, pm, an, ct, ho, hd, hc⟩ := TC.fn
  refine kk ?_
  clear kk PP
  refine wpAny_call (codeAny_call_cells (s := ⟨h, g, d, t, os⟩) (fd := fdOf 7 (Str.ofString "_law_told") .none kV doc pm an (.ref c0) ct) (body := bodyOf (stmtAt 7)) (binds := [(Str.ofString "numbers", nums), (Str.ofString "wish", wish)])
    hroom (D.keep _ _ ho) hd (S.lim.keeps D.keep) (hc.keeps D.keep) rfl (by rfl) rfl ?_ (fun s₁ x => ?_) (by rfl) (by rfl) (by rfl))
  · intro x hx
    rcases List.mem_cons.mp hx with rfl | hx
    · exact .inl rfl
    cases List.mem_singleton.mp hx
    exact .inl rfl
  · obtain ⟨⟨⟨h₀, tk, rfl⟩, hns, hkp, _⟩, hcell, _, _⟩ := x
    have hns' : h₀.Ns h.objs.size (bindL (toldEnv (h.objs.size + 1) h.objs.size (fa 7) c0).kindOf [(Str.ofString "numbers", nums), (Str.ofString "wish", wish)] fun _ => none) := hns
    have hc1 : h₀.IsCell (h.objs.size + 1) none := hcell (Str.ofString "tape") (h.objs.size + 1) (by rfl)
    have D' : Led B h₀ ((h.objs.size, FrameP [(Str.ofString "numbers", nums), (Str.ofString "wish", wish)]) :: (h.objs.size + 1, CellE) :: live) fz := by
      obtain ⟨oL, hoL, hpL⟩ := FrameP.of_ns (kvs := [(Str.ofString "numbers", nums), (Str.ofString "wish", wish)]) hns' fun y v e => by
        simp only [aget] at e
        by_cases e1 : y = Str.ofString "numbers"
        · rw [if_pos e1] at e; subst e1; cases e; rfl
        · rw [if_neg e1] at e
          by_cases e2 : y = Str.ofString "wish"
          · rw [if_pos e2] at e; subst e2; cases e; rfl
          · rw [if_neg e2] at e; cases e
      obtain ⟨oc, hoc, hpc⟩ := hc1
      have fresh : ∀ a, h.objs.size ≤ a → B.get? a = none := fun a ha => by
        cases q : B.get? a with
        | none => rfl
        | some o => exact absurd (Heap.lt_size (D.keep _ _ q)) (Nat.not_lt.mpr ha)
      have hlt : ∀ p, p ∈ live → p.1 < h.objs.size := fun p hp => let ⟨⟨_, e', _⟩, _⟩ := D.lv p hp; Heap.lt_size e'
      have hlf : ∀ p, p ∈ fz → p.1 < h.objs.size := fun p hp => let ⟨⟨_, e', _⟩, _⟩ := D.fv p hp; Heap.lt_size e'
      refine ⟨fun b o e => hkp b o (D.keep b o e), fun p hp => ?_, fun p hp => ?_, ?_, fun p hp hq => ?_⟩
      · rcases List.mem_cons.mp hp with rfl | hp
        · exact ⟨⟨oL, hoL, hpL⟩, D.base_none⟩
        rcases List.mem_cons.mp hp with rfl | hp
        · exact ⟨⟨oc, hoc, _, hpc⟩, fresh _ (Nat.le_succ _)⟩
        · obtain ⟨⟨o', e, q⟩, z⟩ := D.lv p hp
          exact ⟨⟨o', hkp _ _ e, q⟩, z⟩
      · obtain ⟨⟨o', e, q⟩, z⟩ := D.fv p hp
        exact ⟨⟨o', hkp _ _ e, q⟩, z⟩
      · rw [List.map_cons, List.nodup_cons, List.map_cons, List.nodup_cons]
        refine ⟨fun hq => ?_, fun hq => ?_, D.nd⟩
        · rcases List.mem_cons.mp hq with e | hq
          · exact absurd e.symm (Nat.succ_ne_self _)
          · obtain ⟨p, hp', e⟩ := List.mem_map.mp hq
            exact absurd (hlt p hp') (by rw [e]; exact Nat.lt_irrefl _)
        · obtain ⟨p, hp', e⟩ := List.mem_map.mp hq
          exact absurd (hlt p hp') (by rw [e]; exact Nat.not_lt.mpr (Nat.le_succ _))
      · rw [List.map_cons, List.map_cons] at hq
        rcases List.mem_cons.mp hq with e | hq
        · exact absurd (hlf p hp) (by rw [e]; exact Nat.lt_irrefl _)
        rcases List.mem_cons.mp hq with e | hq
        · exact absurd (hlf p hp) (by rw [e]; exact Nat.not_lt.mpr (Nat.le_succ _))
        · exact D.sp p hp hq
    exact k (h.objs.size + 1) h.objs.size h₀ tk D'

theorem st_cell {Q : Unit → Shared → Prop} {env : Env} {x : Str} {c : Addr} {v : Value} (D : Led B h live fz) (u : Put c CellE (CellP v) live live') (hk : env.scope.kind = .function) (hl : env.kindOf x = some .cell) (hc : env.cells.lookup x = some c)
    (hq : ∀ h', Led B h' live' fz → Q () ⟨h', g, d, t, os⟩) : wpAny (model prog w) A (storeName env x v) Q E ⟨h, g, d, t, os⟩ := by
  refine cps fun PP kk => ?_
  obtain ⟨o, ho, v0, hp⟩ := D.rd u.mem
  refine kk ?_
  clear kk PP
  refine wpAny_storeName_cell (s := ⟨h, g, d, t, os⟩) hk hl hc ⟨o, ho, hp⟩ fun h' hc' hs => ?_
  obtain ⟨o', ho', hp'⟩ := hc'
  exact hq h' (D.same u hs ho' hp')

theorem Led.extBut {P : Addr} {PP : Obj → Prop} {x0 : Ent} {h' : Heap} (D : Led B h (x0 :: (P, PP) :: rest) fz) (hx : Heap.ExtBut P h h') : Led B h' (x0 :: rest) fz := by
  have nd := D.nd
  rw [List.map_cons, List.nodup_cons, List.map_cons, List.nodup_cons] at nd
  have hlv : ∀ p, p ∈ x0 :: rest → p.1 ≠ P ∧ p ∈ x0 :: (P, PP) :: rest := fun p hp => by
    rcases List.mem_cons.mp hp with rfl | hp
    · exact ⟨fun e => nd.1 (by rw [e]; exact .head _), .head _⟩
    · exact ⟨fun e => nd.2.1 (by rw [← e]; exact List.mem_map_of_mem (f := (·.1)) hp), .tail _ (.tail _ hp)⟩
  refine ⟨fun b o e => hx b o (fun q => ?_) (D.keep b o e), fun p hp => ?_, fun p hp => ?_, ?_, fun p hp hq => ?_⟩
  · rw [q, (D.lv _ (.tail _ (.head _))).2] at e; cases e
  · obtain ⟨h1, h2⟩ := hlv p hp
    refine cps fun PP kk => ?_
    obtain ⟨⟨o, e, q⟩, z⟩ := D.lv p h2
    refine kk ?_
    clear kk PP
    exact ⟨⟨o, hx _ _ h1 e, q⟩, z⟩
  · obtain ⟨⟨o, e, q⟩, z⟩ := D.fv p hp
    refine ⟨⟨o, hx _ _ (fun q' => D.sp p hp ?_) e, q⟩, z⟩
    rw [q']; exact .tail _ (.head _)
  · rw [List.map_cons, List.nodup_cons]
    exact ⟨fun hm => nd.1 (.tail _ hm), nd.2.2⟩
  · refine D.sp p hp ?_
    rw [List.map_cons] at hq
    rcases List.mem_cons.mp hq with e | hq
    · rw [e]; exact .head _
    · exact .tail _ (.tail _ hq)

theorem mk_key {Q : Value → Shared → Prop} {c L P c0 : Addr} {x0 : Ent} {R : List Ent} {pos : Pos} {fl : Nat} {qual : Str} (S : Stat B mg mb fa) (TC : ToldCode B mg fa c0 P) (D : Led B h (x0 :: (P, TabP) :: R) fz) (hqual : qual = keyQual)
    (hq : ∀ kf cd h' t', Led B h' (x0 :: R) ((kf, KeyP c cd) :: (cd, CodeP keyQual) :: (P, GrownP) :: fz) → Q (.ref kf) ⟨h', g, d, t', os⟩) :
    wpAny (model prog w) A (makeFunction (Str.ofString "_law_key") qual (paramsOf keyStmt) (.stmts (bodyOf keyStmt)) (scopeOf keyStmt) (toldEnv c L (fa 7) c0) [] [] [] pos fl) Q E ⟨h, g, d, t, os⟩ := by
  subst hqual
  obtain ⟨oP, hoP, hpP⟩ := D.rd (a := P) (.tail _ (.head _))
  rw [hpP] at hoP
  refine cps fun PP kk => ?_
  obtain ⟨bm, ob, b1, b2, b3, b4, b5, b6, b7, b8⟩ := TC.bi
  refine kk ?_
  clear kk PP
  refine makeFunction_K (s := ⟨h, g, d, t, os⟩) (mg := mg) (c := c0) (P := P) (ps := #[]) (clos := [(Str.ofString "tape", c)]) (by rfl) rfl (S.g.keeps D.keep) rfl (TC.hd.keeps D.keep) hoP ?_ rfl TC.gP ⟨bm, ob, b1, b2, b3, b4, D.keep _ _ b5, b6, b7, b8⟩ fun c' ctv doc h' tk hx hge hlt hrec htb => ?_
  · first | exact trivial | simp [TriplesOk] | rfl | decide
  · obtain ⟨c₂, oc, vs, tq, e2, hoc, hd2, hv⟩ := hrec
    cases e2
    have D1 := D.extBut hx
    have bn : ∀ a, h.objs.size ≤ a → B.get? a = none := fun a ha => by
      cases q : B.get? a with
      | none => rfl
      | some o => exact absurd (Heap.lt_size (D.keep _ _ q)) (Nat.not_lt.mpr ha)
    have D1 : Led B h' (x0 :: R) ((P, GrownP) :: fz) := by
      have nd := D.nd
      rw [List.map_cons, List.nodup_cons, List.map_cons, List.nodup_cons] at nd
      refine ⟨D1.keep, D1.lv, fun p hp => ?_, D1.nd, fun p hp hq' => ?_⟩
      · rcases List.mem_cons.mp hp with rfl | hp
        · exact ⟨⟨_, htb, _, rfl⟩, (D.lv _ (.tail _ (.head _))).2⟩
        · exact D1.fv p hp
      · rcases List.mem_cons.mp hp with rfl | hp
        · rw [List.map_cons] at hq'
          rcases List.mem_cons.mp hq' with e | hq'
          · exact nd.1 (by rw [← e]; exact .head _)
          · exact nd.2.1 hq'
        · exact D1.sp p hp hq'
    have D2 : Led B h' (x0 :: R) ((c', CodeP keyQual) :: (P, GrownP) :: fz) := by
      refine ⟨D1.keep, D1.lv, fun p hp => ?_, D1.nd, fun p hp hq' => ?_⟩
      · rcases List.mem_cons.mp hp with rfl | hp
        · exact ⟨⟨oc, hoc, vs, tq, hd2, hv⟩, bn _ hge⟩
        · exact D1.fv p hp
      · rcases List.mem_cons.mp hp with rfl | hp
        · obtain ⟨p, hp', e⟩ := List.mem_map.mp hq'
          have hp2 : p ∈ x0 :: (P, TabP) :: R := by
            rcases List.mem_cons.mp hp' with rfl | hp'
            · exact .head _
            · exact .tail _ (.tail _ hp')
          refine cps fun PP kk => ?_
          obtain ⟨⟨o, e', _⟩, _⟩ := D.lv p hp2
          refine kk ?_
          clear kk PP
          exact absurd (Heap.lt_size e') (by rw [e]; exact Nat.not_lt.mpr hge)
        · exact D1.sp p hp hq'
    exact hq _ _ _ _ (D2.allocF (P := KeyP c c') ⟨doc, _, ctv, rfl⟩ rfl)
end
end

section
/-! ## list(error.args), list(tape), entries -/
section
variable {prog : Program} {w : World} {A : Around} {E : Value → Shared → Prop} {B h : Heap} {live live' rest fz : List Ent} {g : Array GenState} {d : Drawn} {t : Nat} {os : OsState} {f0 : Ent}

theorem list_of_tuple {Q : Value → Shared → Prop} {tu : Addr} {vs : List Value} (D : Led B h (f0 :: rest) fz) (hm : (tu, TupP vs) ∈ fz) (hs : vs.length ≤ 100)
    (hq : ∀ r h', Led B h' (f0 :: (r, LListP vs) :: rest) fz → Q (.ref r) ⟨h', g, d, t, os⟩) : wpAny (model prog w) A (call (.type "list") [.ref tu]) Q E ⟨h, g, d, t, os⟩ := by
  obtain ⟨o, ho, rfl⟩ := D.rf hm
  refine call_list_seq (s := ⟨h, g, d, t, os⟩) tu (.inr rfl) ho rfl rfl (fun h' c' hk hD => ?_) (by simp [sizeLine_eq]; omega)
  refine hq _ h' ?_
  have D1 := D.alloc2 (P := AnyP) (o := lstO vs c') trivial rfl
  have D2 : Led B h' (f0 :: rest) fz := D.grow hk
  have nd := D1.nd
  refine ⟨D2.keep, fun p hp => ?_, D2.fv, nd, fun p hp hq' => ?_⟩
  · rcases List.mem_cons.mp hp with rfl | hp
    · exact D2.lv _ (.head _)
    rcases List.mem_cons.mp hp with rfl | hp
    · exact ⟨⟨_, hD, c', rfl⟩, D.base_none⟩
    · exact D2.lv p (.tail _ hp)
  · exact D1.sp p hp hq'

theorem list_of_list {Q : Value → Shared → Prop} {l : Addr} {vs : List Value} (D : Led B h (f0 :: rest) fz) (hl : h.IsList l vs.toArray) (hs : vs.length ≤ 1000)
    (hq : ∀ r h', Led B h' (f0 :: (r, LListP vs) :: rest) fz → Q (.ref r) ⟨h', g, d, t, os⟩) : wpAny (model prog w) A (call (.type "list") [.ref l]) Q E ⟨h, g, d, t, os⟩ := by
  obtain ⟨o, ho, hc, n, hd⟩ := hl
  refine call_list_seq (s := ⟨h, g, d, t, os⟩) l (.inl rfl) ho hc hd (fun h' c' hk hD => ?_) (by simp [sizeLine_eq]; omega)
  refine hq _ h' ?_
  have D1 := D.alloc2 (P := AnyP) (o := lstO vs c') trivial rfl
  have D2 : Led B h' (f0 :: rest) fz := D.grow hk
  have nd := D1.nd
  refine ⟨D2.keep, fun p hp => ?_, D2.fv, nd, fun p hp hq' => ?_⟩
  · rcases List.mem_cons.mp hp with rfl | hp
    · exact D2.lv _ (.head _)
    rcases List.mem_cons.mp hp with rfl | hp
    · exact ⟨⟨_, hD, c', rfl⟩, D.base_none⟩
    · exact D2.lv p (.tail _ hp)
  · exact D1.sp p hp hq'

theorem list_of_tape_end {Q : Value → Shared → Prop} {tp l : Addr} {n : Nat} {xs : List Value} (hh : A.handled = none) (hn : xs.length = n) (hl : (l, LListP xs) ∈ fz) (D : Led B h live fz) (u : Put tp (TapeP l n n) (TapeP l n n) live live')
    (hq : ∀ r h', Led B h' live' ((r, LListP []) :: fz) → Q (.ref r) ⟨h', g, d, t, os⟩) : wpAny (model prog w) A (call (.type "list") [.ref tp]) Q E ⟨h, g, d, t, os⟩ := by
  refine callType_codes (Q₁ := fun obj s₁ => obj = .ref h.objs.size ∧ s₁ = ⟨h.push { cls := .type "list", data := .seq #[] }, g, d, t, os⟩) F.called_list (F.typeCall_list_1 _) F.entry_list_init
    (code_list_new _ ⟨rfl, rfl⟩) fun obj s₁ h₁ => ?_
  obtain ⟨rfl, rfl⟩ := h₁
  have hS : (h.push { cls := .type "list", data := .seq #[] }).get? h.objs.size = some { cls := .type "list", data := .seq #[] } := Heap.get?_push_size _ rfl
  have D1 := D.alloc (P := LListP []) (o := { cls := .type "list", data := .seq #[] }) ⟨0, rfl⟩ rfl
  generalize h.push { cls := .type "list", data := .seq #[] } = h1 at hS D1 ⊢
  have hSI : h.objs.size ≠ tp := fun e => by
    obtain ⟨⟨o, ho, _⟩, _⟩ := D.lv _ u.mem
    exact absurd (Heap.lt_size ho) (by rw [← e]; exact Nat.lt_irrefl _)
  refine ⟨⟨_, hS, rfl⟩, F.args_list_init_2 _ _, ?_⟩
  show wpAny _ A.in1.in1 (do let old ← Builtin.List.listItems (.ref h.objs.size); Builtin.List.listUpdate (.ref h.objs.size) (fun _ => #[]); letGo old.toList.reverse; Builtin.List.listExtendWith (.ref h.objs.size) (.ref tp) .none) _ _ _
  refine wpAny_bind ?_
  unfold Builtin.List.listItems
  refine wpAny_bind (wpAny_seqItems (s := ⟨h1, g, d, t, os⟩) hS rfl (wpAny_pure ?_))
  show wpAny _ A.in1.in1 (updateSeq h.objs.size (fun _ => ([] : List Value).toArray) >>= fun _ => letGo (#[] : Array Value).toList.reverse >>= fun _ => Builtin.List.listExtendWith (.ref h.objs.size) (.ref tp) .none) _ _ _
  refine wpAny_bind (seq_set D1 .here (by simp) (by simp) fun h2 D2 => ?_)
  refine wpAny_bind (wpAny_letGo ?_)
  obtain ⟨ot, hot, hpt⟩ := D2.rd (.tail _ u.mem)
  have hT := TapeP.typeIs (g := g) (d := d) (t := t) (os := os) hot hpt
  have h1' : Builtin.List.listSameRef (.ref h.objs.size) (.ref tp) = false := by simp [Builtin.List.listSameRef, hSI]
  unfold Builtin.List.listExtendWith
  refine wpAny_bind (wpAny_typeOf hT ?_)
  rw [if_neg (by rw [h1']; decide)]
  refine wpAny_bind (iter_tape D2 (.tail _ u.mem) ?_)
  refine wpAny_bind (wpAny_holding ?_)
  unfold Builtin.List.listLengthHint
  refine wpAny_bind (wpAny_specialOf hT F.nolen_li ?_)
  show wpAny _ A.in1.in1 (specialOf (Value.ref tp) (Str.ofString "__length_hint__") >>= _) _ _ _
  refine wpAny_bind (wpAny_specialOf hT F.hint_li ?_)
  (generalize hid : ("list_iterator.__length_hint__" : String) = id0; (fail_if_success (clear hid id0)); wp_delta; rw [show splitId id0 = some ("list_iterator", "__length_hint__") from by subst hid; decide +kernel]; subst hid)
  refine wpAny_bind (wpAny_isInstance (b := true) hT (by rw [isSubtype_type]; kernel_rfl) ?_)
  refine wpAny_pure ?_
  rw [if_neg (by decide)]
  refine wpAny_pure ⟨plainId_quiet F.plain_extend_loop _, codeAny_builtin F.entry_extend_loop ?_⟩
  rw [Around.under_plainId F.plain_extend_loop _]
  show wpAny _ A.in1.in1 (pyNext (.ref tp) >>= _) _ _ _
  refine wpAny_bind (next_tape_end hn hh D2 (.there u) (D2.flist hl) (by omega) fun h3 D3 => ?_)
  refine wpAny_pure ?_
  exact ⟨rfl, hq _ h3 D3.freeze⟩

inductive Ent4
  | few (heads : List Int)
  | spoilt (x : Int) (rest : List Int)
  | cut
  | left
def IsEnt (fz : List Ent) (v : Value) : Ent4 → Prop
  | .few heads => ∃ a t b, v = .ref a ∧ (a, LListP [.str (Str.ofString "few") t, b]) ∈ fz ∧ IsInts fz b heads
  | .spoilt x rest => ∃ a t b tx rv, v = .ref a ∧ (a, LListP [.str (Str.ofString "spoilt") t, .ref b]) ∈ fz ∧ (b, LListP [.int x tx, rv]) ∈ fz ∧ IsInts fz rv rest
  | .cut => ∃ a t b, v = .ref a ∧ (a, LListP [.str (Str.ofString "cut") t, b]) ∈ fz ∧ IsInts fz b []
  | .left => ∃ a t b, v = .ref a ∧ (a, LListP [.str (Str.ofString "left") t, b]) ∈ fz ∧ IsInts fz b []
theorem IsEnt.mono {fz fz' : List Ent} {v : Value} {e : Ent4} (x : IsEnt fz v e) (hs : ∀ p, p ∈ fz → p ∈ fz') : IsEnt fz' v e := by
  cases e with
  | few heads => obtain ⟨a, t, b, e, m, i⟩ := x; exact ⟨a, t, b, e, hs _ m, i.mono hs⟩
  | spoilt x' rest => obtain ⟨a, t, b, tx, rv, e, m, m2, i⟩ := x; exact ⟨a, t, b, tx, rv, e, hs _ m, hs _ m2, i.mono hs⟩
  | cut => obtain ⟨a, t, b, e, m, i⟩ := x; exact ⟨a, t, b, e, hs _ m, i.mono hs⟩
  | left => obtain ⟨a, t, b, e, m, i⟩ := x; exact ⟨a, t, b, e, hs _ m, i.mono hs⟩
inductive AreEnts (fz : List Ent) : List Value → List Ent4 → Prop
  | nil : AreEnts fz [] []
  | cons {v : Value} {vs : List Value} {e : Ent4} {es : List Ent4} : IsEnt fz v e → AreEnts fz vs es → AreEnts fz (v :: vs) (e :: es)
theorem AreEnts.mono {fz fz' : List Ent} {vs : List Value} {es : List Ent4} (x : AreEnts fz vs es) (hs : ∀ p, p ∈ fz → p ∈ fz') : AreEnts fz' vs es := by
  induction x with
  | nil => exact .nil
  | cons h _ ih => exact .cons (h.mono hs) ih
theorem AreEnts.snoc {fz : List Ent} {vs : List Value} {es : List Ent4} {v : Value} {e : Ent4} (x : AreEnts fz vs es) (h : IsEnt fz v e) : AreEnts fz (vs ++ [v]) (es ++ [e]) := by
  induction x with
  | nil => exact .cons h .nil
  | cons h' _ ih => exact .cons h' ih
theorem AreEnts.len {fz : List Ent} {vs : List Value} {es : List Ent4} (x : AreEnts fz vs es) : vs.length = es.length := by
  induction x with
  | nil => rfl
  | cons _ _ ih => simp [ih]
end
end

section
/-! ## _law_told: its rounds -/
inductive Trace (ns : List Int) (w0 : Int) : List Ent4 → Int → Nat → Prop
  | nil : Trace ns w0 [] w0 0
  | none {es : List Ent4} {w : Int} {i : Nat} : Trace ns w0 es w i → w < 1 → Trace ns w0 (es ++ [.few []]) (w + 1) i
  | bad {es : List Ent4} {w : Int} {i j : Nat} {recs : List Rec} (hj : j < ns.length) : Trace ns w0 es w i → 1 ≤ w → Run ns i recs j → j + 1 + rOf ns[j] ≤ ns.length → spoilt ns[j] = true →
      Trace ns w0 (es ++ [.spoilt ns[j] (restOf ns (j + 1) ns[j])]) (w + 1) (j + 1 + rOf ns[j])
inductive Fin4 (pick : Int → List Rec → List Int) (ns : List Int) (w0 : Int) : List Ent4 → Prop
  | done {es : List Ent4} {w : Int} {i : Nat} {recs : List Rec} : Trace ns w0 es w i → 1 ≤ w → Run ns i recs ns.length → Fin4 pick ns w0 (es ++ [.few (pick w recs)])
  | cut {es : List Ent4} {w : Int} {i j : Nat} {recs : List Rec} (hj : j < ns.length) : Trace ns w0 es w i → 1 ≤ w → Run ns i recs j → ns.length < j + 1 + rOf ns[j] → Fin4 pick ns w0 (es ++ [.cut])
theorem Trace.facts {ns : List Int} {w0 w : Int} {es : List Ent4} {i : Nat} (x : Trace ns w0 es w i) (h0 : w0 ≤ 2) (h1 : -1 ≤ w0) : i ≤ ns.length ∧ w ≤ 2 + i ∧ (w ≤ 1 → i = 0) ∧ w = w0 + es.length ∧ -1 ≤ w := by
  induction x with
  | nil => simp; omega
  | none _ _ ih => simp; omega
  | bad hj _ _ hr hle _ ih =>
    have := hr.len
    simp
    omega

abbrev sWish := Str.ofString "wish"
abbrev tk5 (nl : Addr) (w : Int) (tw : Tok) (kf tl : Addr) (gv : Value) : List (Str × Value) :=
  [(Str.ofString "numbers", .ref nl), (sWish, .int w tw), (Str.ofString "_law_key", .ref kf), (Str.ofString "told", .ref tl), (Str.ofString "going", gv)]

section
variable {prog : Program} {w : World} {A : Around} {E : Value → Shared → Prop} {B h : Heap} {live live' rest fz : List Ent} {g : Array GenState} {d : Drawn} {t : Nat} {os : OsState} {mg mb : Str → Option Value} {fa : Nat → Addr}

theorem callWith_nsm {pos : Pos} {e : Expr} {r : List Expr} {kws : List Keyword} {env : Env} {s : Shared} {Q : Value → Shared → Prop} (S : Stat B mg mb fa)
    (hq : wpAny (model prog w) A (spliced (backTo pos (starEach (e :: r) env))) (fun vs s₁ => wpAny (model prog w) A (evalAll ((backToKw pos (keywordEach kws env)).map (·.2)))
      (fun kvs s₂ => (∀ b o, B.get? b = some o → s₂.heap.get? b = some o) ∧ wpAny (model prog w) A (call (.ref (fa 5)) vs (((backToKw pos (keywordEach kws env)).filterMap (·.1)).zip kvs)) Q E s₂) E s₁) E s)
    (he : backTo pos (starEach (e :: r) env) = (false, eval e env) :: backTo pos (starEach r env) := by rfl)
    (hall : (backToKw pos (keywordEach kws env)).all (·.1.isSome) = true := by rfl) :
    wpAny (model prog w) A (callWith pos (.ref (fa 5)) [] (backTo pos (starEach (e :: r) env)) (backToKw pos (keywordEach kws env))) Q E s := by
  refine cps fun PP kk => ?_
  obtain ⟨hg, dt, ⟨o, kV, doc, pm, an, cdv, ct, ho, hd, hc⟩, _⟩ := S.nsm
  refine kk ?_
  clear kk PP
  refine callWith_def_kw hd ?_
  rw [he] at hq ⊢
  exact evalArgs_kwB hall (wpAny_mono hq (fun vs s₁ h₁ => wpAny_mono h₁ (fun kvs s₂ h₂ => ⟨h₂.1 _ _ ho, h₂.2⟩) fun _ _ e => e) fun _ _ e => e)

theorem name_goes {Q : Unit → Shared → Prop} {env : Env} {n : Str} {pos : Pos} {L : Addr} {kvs kvs' : List (Str × Value)} (D : Led B h ((L, FrameP kvs) :: rest) fz) (hL : env.locals = L) (hl : env.kindOf n = some .local)
    (hp : (env.scope.kind == .class || (env.scope.kind == .module && env.locals != env.globals)) = false) (hkv : ∀ x v, aget x kvs' = some v → x ≠ n ∧ aget x kvs = some v)
    (hq : ∀ h' t', Led B h' ((L, FrameP kvs') :: rest) fz → Q () ⟨h', g, d, t', os⟩) : wpAny (model prog w) A (do bindName env n .none; unbindBehindTheSuite env n pos) Q E ⟨h, g, d, t, os⟩ := by
  subst hL
  refine cps fun PP kk => ?_
  obtain ⟨o, ho, hpo⟩ := D.rd (.head _)
  obtain ⟨m, hn, hv⟩ := FrameP.ns ho hpo
  refine kk ?_
  clear kk PP
  refine wpAny_nameGoes_keeps (s := ⟨h, g, d, t, os⟩) hl hn hp fun h' v hn' hs => ?_
  obtain ⟨o', ho', hp'⟩ := FrameP.of_ns (kvs := kvs') hn' (fun y u e => by
    obtain ⟨h1, h2⟩ := hkv y u e
    simp only [h1, if_false]
    exact hv _ _ h2)
  exact hq h' _ (D.same .here hs ho' hp')

/-- what a round leaves -/
inductive After (B : Heap) (g : Array GenState) (d : Drawn) (os : OsState) (pick : Int → List Rec → List Int) (ns : List Int) (w0 : Int) (nl kf tl tp L : Addr) (R fz : List Ent) : Bool → Nat → Shared → Prop
  | on {es : List Ent4} {w : Int} {i : Nat} {vs : List Value} {tw : Tok} {fz' : List Ent} {h : Heap} {t : Nat} : Trace ns w0 es w i → (∀ p, p ∈ fz → p ∈ fz') → AreEnts fz' vs es →
      Led B h ((L, FrameP (tk5 nl w tw kf tl (.bool true))) :: (tl, LListP vs) :: (tp, TapeP nl ns.length i) :: R) fz' → After B g d os pick ns w0 nl kf tl tp L R fz true ((2 - w).toNat + (ns.length - i) + 1) ⟨h, g, d, t, os⟩
  | off {es : List Ent4} {w : Int} {vs : List Value} {tw : Tok} {fz' : List Ent} {h : Heap} {t : Nat} : Fin4 pick ns w0 es → es.length ≤ ns.length + 4 → (∀ p, p ∈ fz → p ∈ fz') → AreEnts fz' vs es →
      Led B h ((L, FrameP (tk5 nl w tw kf tl (.bool false))) :: (tl, LListP vs) :: (tp, TapeP nl ns.length ns.length) :: R) fz' → After B g d os pick ns w0 nl kf tl tp L R fz false 0 ⟨h, g, d, t, os⟩

theorem told_while {Q : Flow → Shared → Prop} {nl c kf tp tl L c0 : Addr} {ns r : List Int} {w0 : Int} {tw0 : Tok} {outer : List Env} {R : List Ent} (pick : Int → List Rec → List Int) (S : Stat B mg mb fa) (T : Tape fz nl c kf tp ns)
    (hpick : ∀ n recs heads, 0 < n → (recs = [] ∧ heads = [] ∨ Sel n recs heads) → heads = pick n recs) (hpre : ns = 4 :: 9 :: 3 :: 7 :: 20 :: 12 :: r) (hlen : ns.length ≤ 74) (hw1 : -1 ≤ w0) (hw2 : w0 ≤ 2)
    (D : Led B h ((L, FrameP (tk5 nl w0 tw0 kf tl (.bool true))) :: (tl, LListP []) :: (tp, TapeP nl ns.length 0) :: R) fz)
    (hh : A.handled = none) (hd : A.depth + 8 < recursionLimit) (hu : A.units + 100 < cLine) (hfr : A.frames = some (toldEnv c L (fa 7) c0 :: outer)) (hF : FrOk R outer)
    (hq : ∀ s, After B g d os pick ns w0 nl kf tl tp L R fz false 0 s → wpAny (model prog w) A (execs ((bodyOf (stmtAt 7)).drop 5) (toldEnv c L (fa 7) c0)) Q E s) :
    wpAny (model prog w) A (execs ((bodyOf (stmtAt 7)).drop 4) (toldEnv c L (fa 7) c0)) Q E ⟨h, g, d, t, os⟩ := by
  refine wpAny_execs_cons ?_
  refine while_ (fun m s => ∃ b, After B g d os pick ns w0 nl kf tl tp L R fz b m s) (fun s => After B g d os pick ns w0 nl kf tl tp L R fz false 0 s) _ ⟨true, .on .nil (fun _ hp => hp) .nil D⟩ ?turn (fun s hs => hq s hs)
  rintro m s ⟨b, hA⟩
  cases hA with
  | off hfin hel hsub hents D1 =>
    refine isTrue_plain ?_
    walk_at "nl"
    refine wpAny_truthy_bool ?_
    exact After.off hfin hel hsub hents D1
  | @on es w1 i vs tw fz1 h1 t1 htr hsub hents D1 =>
    refine cps fun PP kk => ?_
    obtain ⟨hi, hwi, hw01, hwl, hwm⟩ := htr.facts hw2 hw1
    refine kk ?_
    clear kk PP
    refine isTrue_plain ?_
    walk_at "nl"
    refine wpAny_truthy_bool ?_
    simp only [if_true]
    walk_at "as"
    refine wpAny_Compare1 ?_
    walk_at "nl"
    walk_at "ci"
    refine lt_int ?_
    walk_at "st"
    intro h2 t2 D2
    have T1 := T.mono hsub
    have hvl := hents.len
    have hFr : ∀ P kvs l, FrOk ((L, FrameP kvs) :: (tl, LListP l) :: (tp, P) :: R) (toldEnv c L (fa 7) c0 :: outer) := by
      intro P kvs l env he
      rcases List.mem_cons.mp he with rfl | he
      · exact ⟨show (scopeOf (stmtAt 7)).kind ≠ .module by decide +kernel, L, _, rfl, .head _⟩
      · obtain ⟨hk, L', kvs', hf, hm⟩ := hF env he
        exact ⟨hk, L', kvs', hf, .tail _ (.tail _ (.tail _ hm))⟩
    refine wpAny_execs_cons (wpAny_mono (Q := fun f s => f = .next ∧ ∃ (gv : Bool) (es' : List Ent4) (vs' : List Value) (fz2 : List Ent) (i2 : Nat) (h2 : Heap) (t2 : Nat), s = ⟨h2, g, d, t2, os⟩ ∧ (∀ p, p ∈ fz1 → p ∈ fz2) ∧ AreEnts fz2 vs' es' ∧
      Led B h2 ((L, FrameP (tk5 nl w1 tw kf tl (.bool gv))) :: (tl, LListP vs') :: (tp, TapeP nl ns.length i2) :: R) fz2 ∧
      ((gv = true ∧ Trace ns w0 es' (w1 + 1) i2 ∧ (2 - (w1 + 1)).toNat + (ns.length - i2) < (2 - w1).toNat + (ns.length - i)) ∨ (gv = false ∧ Fin4 pick ns w0 es' ∧ i2 = ns.length ∧ es'.length ≤ ns.length + 4))) ?ifp ?rest (fun _ _ e => e))
    case rest =>
      intro f s hEx
      refine cps fun PP kk => ?_
      obtain ⟨rfl, gv, es', vs', fz2, i2, h3, t3, rfl, hsub2, hents2, D3, hcase⟩ := hEx
      refine kk ?_
      clear kk PP
      refine wpAny_execs_cons ?_
      refine wpAny_AugAssign_Name ?_
      refine ld_name D3 (by rfl) (by rfl) (by rfl) (by rfl) ?_
      walk_at "ci"
      refine o_iadd ?_
      walk_at "st"
      intro h4 t4 D4
      refine wpAny_execs_nil ?_
      rcases hcase with ⟨rfl, htr2, hm2⟩ | ⟨rfl, hfin, rfl, hel⟩
      · exact ⟨_, by omega, true, .on htr2 (fun p hp => hsub2 _ (hsub _ hp)) hents2 D4⟩
      · exact ⟨0, by omega, false, .off hfin hel (fun p hp => hsub2 _ (hsub _ hp)) hents2 D4⟩
    case ifp =>
      refine wpAny_Try_except ?_
      walk_at "ex"
      refine wpAny_Call_append (by rfl) (by rfl) (by rfl) (by rfl) ?_
      walk_at "nl"
      refine ⟨tl, _, rfl, D2.plainL (by walk_at "mem"), ?_⟩
      refine List_ ?_
      refine args_cons ?_
      refine k_str ?_
      refine args_cons ?_
      refine wpAny_Call_Name_kw ?_
      refine wpAny_Name (ld_global D2 S.g rfl S.nsm.1 (by rfl) (by rfl) ?_) (by decide)
      refine callWith_nsm S ?_
      refine args_cons ?_
      walk_at "nl"
      refine args_cons ?_
      refine wpAny_Name (ld_cell D2 (.inr T1.cell) (by rfl) (by rfl) (.inl (by rfl)) ?_) (by decide)
      refine args_nil ?_
      refine kws_cons ?_
      walk_at "nl"
      refine kws_nil ?_
      refine ⟨D2.keep, ?_⟩
      show wpAny _ _ (call (.ref (fa 5)) [.int w1 tw, .ref tp] [(Str.ofString "key", .ref kf)]) _ _ _
      refine wpAny_mono (Q := fun v s => ∃ (fz2 : List Ent) (h3 : Heap) (t3 : Nat) (i2 : Nat) (heads : List Int), s = ⟨h3, g, d, t3, os⟩ ∧ (∀ p, p ∈ fz1 → p ∈ fz2) ∧ IsInts fz2 v heads ∧
          Led B h3 ((L, FrameP (tk5 nl w1 tw kf tl (.bool (decide (w1 < 1))))) :: (tl, LListP vs) :: (tp, TapeP nl ns.length i2) :: R) fz2 ∧
          ((w1 ≤ 0 ∧ heads = [] ∧ i2 = i) ∨ (0 < w1 ∧ i2 = ns.length ∧ ∃ recs, Run ns i recs ns.length ∧ heads = pick w1 recs)))
        (E := fun v s => ∃ (e : Addr) (fz2 : List Ent) (h3 : Heap) (t3 : Nat), v = .ref e ∧ s = ⟨h3, g, d, t3, os⟩ ∧ (∀ p, p ∈ fz1 → p ∈ fz2) ∧ 0 < w1 ∧
          ((∃ (recs : List Rec) (j : Nat) (hj : j < ns.length) (a0 : Addr) (tx : Tok) (rv : Value), Run ns i recs j ∧ j + 1 + rOf ns[j] ≤ ns.length ∧ spoilt ns[j] = true ∧ (a0, TupP [.int ns[j] tx, rv]) ∈ fz2 ∧ IsInts fz2 rv (restOf ns (j + 1) ns[j]) ∧
              Fly B h3 ((L, FrameP (tk5 nl w1 tw kf tl (.bool (decide (w1 < 1))))) :: (tl, LListP vs) :: (tp, TapeP nl ns.length (j + 1 + rOf ns[j])) :: R) fz2 e "ValueError" (.ref a0) .none) ∨
            (∃ (recs : List Rec) (j : Nat) (hj : j < ns.length) (a0 : Value), Run ns i recs j ∧ ns.length < j + 1 + rOf ns[j] ∧
              Fly B h3 ((L, FrameP (tk5 nl w1 tw kf tl (.bool (decide (w1 < 1))))) :: (tl, LListP vs) :: (tp, TapeP nl ns.length ns.length) :: R) fz2 e "StopIteration" a0 .none))) ?callp ?okp ?errp
      case callp =>
        by_cases hw : w1 = 1
        · have ei : i = 0 := hw01 (by omega)
          subst hw ei
          refine nsm_call1 (K := fun P => (L, FrameP (tk5 nl 1 tw kf tl (.bool (decide ((1 : Int) < 1))))) :: (tl, LListP vs) :: (tp, P) :: R) S T1 hpre (fun P P' => .there (.there .here)) D2 hh (by omega) (by omega) hfr (fun P => hFr P _ _) ?_
          intro tx e a0 rv fz2 h3 t3 hsub2 ha hr D3
          have hl6 : 6 ≤ ns.length := by rw [hpre]; simp
          have run : Run ns 0 [(4, [9]), (3, []), (7, [20])] 5 := by
            have r1 := Run.snoc (ns := ns) (i := 0) (recs := []) (j := 0) (by omega) .nil
            have r2 := Run.snoc (ns := ns) (i := 0) (recs := [(4, [9])]) (j := 2) (by omega)
            have r3 := Run.snoc (ns := ns) (i := 0) (recs := [(4, [9]), (3, [])]) (j := 3) (by omega)
            simp only [hpre] at r1 r2 r3 ⊢
            have q1 := r1 (by simp [rOf]) (show spoilt 4 = false by decide)
            have q2 := r2 q1 (by simp [rOf]) (show spoilt 3 = false by decide)
            exact r3 q2 (by simp [rOf]) (show spoilt 7 = false by decide)
          have h5 : ns[5]'(by omega) = 12 := by simp only [hpre]; rfl
          refine ⟨e, fz2, h3, t3, rfl, rfl, hsub2, by omega, .inl ⟨_, 5, by omega, a0, tx, rv, run, ?_, ?_, ?_, ?_, ?_⟩⟩
          all_goals rw [h5]
          · exact hl6
          · decide
          · exact ha
          · exact hr
          · exact D3
        · refine nsm_call (K := fun P => (L, FrameP (tk5 nl w1 tw kf tl (.bool (decide (w1 < 1))))) :: (tl, LListP vs) :: (tp, P) :: R) S T1 (fun P P' => .there (.there .here)) D2 hi hw (by omega) (by omega) (by omega) (by omega) hh (by omega) (by omega) hfr (fun P => hFr P _ _) ?_ ?_ ?_ ?_
          · intro hn rl fz2 h3 t3 hsub2 hints D3
            exact ⟨fz2, h3, t3, i, [], rfl, hsub2, hints, D3, .inl ⟨hn, rfl, rfl⟩⟩
          · intro hn recs heads rl fz2 h3 t3 hsub2 hrun hsel hints D3
            exact ⟨fz2, h3, t3, _, heads, rfl, hsub2, hints, D3, .inr ⟨hn, rfl, recs, hrun, hpick _ _ _ hn hsel⟩⟩
          · intro hn recs j e a0 fz2 h3 t3 hsub2 hrun hj hc D3
            exact ⟨e, fz2, h3, t3, rfl, rfl, hsub2, hn, .inr ⟨recs, j, hj, a0, hrun, hc, D3⟩⟩
          · intro hn recs j tx e a0 rv fz2 h3 t3 hsub2 hrun hj hle hs ha hr D3
            exact ⟨e, fz2, h3, t3, rfl, rfl, hsub2, hn, .inl ⟨recs, j, hj, a0, tx, rv, hrun, hle, hs, ha, hr, D3⟩⟩
      case okp =>
        intro v s hEx
        refine cps fun PP kk => ?_
        obtain ⟨fz2, h3, t3, i2, heads, rfl, hsub2, hints, D3, hcase⟩ := hEx
        refine kk ?_
        clear kk PP
        refine args_nil ?_
        refine mk_list D3 (by show 2 ≤ sizeLine; decide) (fun el h4 D4 => ?_)
        have D5 := (D4.perm (List.Perm.swap _ _ _)).freeze
        refine append_ D5 (.there .here) (by unfold sizeLine; omega) (fun h6 D6 => ?_)
        refine wpAny_execs_nil ?_
        refine wpAny_execs_nil ?_
        have hents2 : ∀ tk, AreEnts ((el, LListP [.str (Str.ofString "few") tk, v]) :: fz2) (vs ++ [.ref el]) (es ++ [.few heads]) := fun tk =>
          AreEnts.snoc (hents.mono fun p hp => .tail _ (hsub2 _ hp)) ⟨el, tk, v, rfl, .head _, hints.mono fun p hp => .tail _ hp⟩
        rcases hcase with ⟨hw, rfl, rfl⟩ | ⟨hw, rfl, recs, hrun, rfl⟩
        · rw [decide_eq_true (show w1 < 1 by omega)] at D6
          exact ⟨rfl, true, _, _, _, _, h6, _, rfl, fun p hp => .tail _ (hsub2 _ hp), hents2 _, D6, .inl ⟨rfl, .none htr (by omega), by omega⟩⟩
        · rw [decide_eq_false (show ¬ w1 < 1 by omega)] at D6
          exact ⟨rfl, false, _, _, _, _, h6, _, rfl, fun p hp => .tail _ (hsub2 _ hp), hents2 _, D6, .inr ⟨rfl, .done htr (by omega) hrun, rfl, by simp; omega⟩⟩
      case errp =>
        intro v s hEx
        refine cps fun PP kk => ?_
        obtain ⟨e, fz2, h3, t3, rfl, rfl, hsub2, hw, hcase⟩ := hEx
        refine kk ?_
        clear kk PP
        rw [decide_eq_false (show ¬ w1 < 1 by omega)] at hcase
        rcases hcase with ⟨recs, j, hj, a0, tx, rv, hrun, hle, hs, ha, hr, D3⟩ | ⟨recs, j, hj, a0, hrun, hc, D3⟩
        · refine note_fly hfr (hFr _ _ _) rfl D3 fun h4 D4 => ?_
          refine set_flight D4 fun h5 D5 => ?_
          refine wpAny_handleBy_builtin_as (T := "ValueError") (X := "ValueError") (b := true) (by rw [isSubtype_type]; kernel_rfl) (by rw [isSubtype_type]; kernel_rfl) (by rw [isSubtype_type]; kernel_rfl) ?_
          obtain ⟨Tb, D5⟩ := D5
          refine wpAny_Name (ld_bi S D5 (by walk_at "mem") (by rfl) (by rfl) (by rfl) (by rfl) ?_) (by decide)
          refine cps fun PP kk => ?_
          obtain ⟨oe, hoe, hce, _⟩ := D5.rd (.head _)
          refine kk ?_
          clear kk PP
          refine ⟨rfl, ⟨oe, hoe, hce⟩, ?_⟩
          simp only [if_true]
          refine set_flight ⟨Tb, D5⟩ fun h6 D6 => ?_
          obtain ⟨Tb, D6⟩ := D6
          have D7 : Led B h6 ((L, FrameP (tk5 nl w1 tw kf tl (.bool false))) :: (e, ExcP "ValueError" (.ref a0) (.ref Tb)) :: (Tb, TbP .none) :: (tl, LListP vs) :: (tp, TapeP nl ns.length (j + 1 + rOf ns[j])) :: R) fz2 :=
            D6.perm ((List.Perm.swap _ _ _).trans ((List.Perm.swap _ _ _).cons _))
          walk_at "st"
          intro h8 t8 D8
          walk_at "ex"
          refine wpAny_Call_append (by rfl) (by rfl) (by rfl) (by rfl) ?_
          walk_at "nl"
          refine ⟨tl, _, rfl, D8.plainL (by walk_at "mem"), ?_⟩
          refine List_ ?_
          refine args_cons ?_
          refine k_str ?_
          refine args_cons ?_
          refine Call_ ?_
          walk_at "nb"
          refine Pv.callWith_type1 ?_
          refine args_cons ?_
          refine Attribute_name ?_
          walk_at "nl"
          refine cps fun PP kk => ?_
          obtain ⟨oe2, hoe2, hce2, vs2, hd2, h02, _⟩ := D8.rd (a := e) (by walk_at "mem")
          refine kk ?_
          clear kk PP
          refine args_attr F.excAttr_ValueError hoe2 hce2 hd2 h02 ?_
          refine args_nil ?_
          refine list_of_tuple D8 ha (by simp) (fun bl h9 D9 => ?_)
          refine args_nil ?_
          have D10 := (D9.perm (List.Perm.swap _ _ _)).freeze
          refine mk_list D10 (by show 2 ≤ sizeLine; decide) (fun el h11 D11 => ?_)
          have D12 := (D11.perm (List.Perm.swap _ _ _)).freeze
          refine append_ D12 (.there (.there (.there .here))) (by unfold sizeLine; omega) (fun h13 D13 => ?_)
          walk_at "as"
          refine k_bool ?_
          walk_at "st"
          intro h14 t14 D14
          refine wpAny_execs_nil ?_
          refine name_goes (kvs' := tk5 nl w1 tw kf tl (.bool true)) D14 (by rfl) (by rfl) (by rfl) ?_ (fun h15 t15 D15 => ?_)
          · intro y u hy
            refine ⟨fun ey => ?_, aget_append (r := [_]) hy⟩
            subst ey
            simp [aget, ofString_inj] at hy
          · have hents2 : ∀ tk, AreEnts ((el, LListP [.str (Str.ofString "spoilt") tk, .ref bl]) :: (bl, LListP [.int ns[j] tx, rv]) :: fz2) (vs ++ [.ref el]) (es ++ [.spoilt ns[j] (restOf ns (j + 1) ns[j])]) := fun tk =>
              AreEnts.snoc (hents.mono fun p hp => .tail _ (.tail _ (hsub2 _ hp))) ⟨el, tk, bl, tx, rv, rfl, .head _, .tail _ (.head _), hr.mono fun p hp => .tail _ (.tail _ hp)⟩
            have hjl := hrun.len
            exact ⟨rfl, true, _, _, _, _, h15, _, rfl, fun p hp => .tail _ (.tail _ (hsub2 _ hp)), hents2 _, D15.drop2.drop2, .inl ⟨rfl, .bad hj htr (by omega) hrun hle hs, by omega⟩⟩
        · refine note_fly hfr (hFr _ _ _) rfl D3 fun h4 D4 => ?_
          refine set_flight D4 fun h5 D5 => ?_
          refine wpAny_handleBy_builtin_as (T := "ValueError") (X := "StopIteration") (b := false) (by rw [isSubtype_type]; kernel_rfl) (by rw [isSubtype_type]; kernel_rfl) (by rw [isSubtype_type]; kernel_rfl) ?_
          obtain ⟨Tb, D5⟩ := D5
          refine wpAny_Name (ld_bi S D5 (by walk_at "mem") (by rfl) (by rfl) (by rfl) (by rfl) ?_) (by decide)
          refine cps fun PP kk => ?_
          obtain ⟨oe, hoe, hce, _⟩ := D5.rd (.head _)
          refine kk ?_
          clear kk PP
          refine ⟨rfl, ⟨oe, hoe, hce⟩, ?_⟩
          simp only [Bool.false_eq_true, if_false]
          refine wpAny_handleBy_builtin (T := "StopIteration") (X := "StopIteration") (b := true) (by rw [isSubtype_type]; kernel_rfl) (by rw [isSubtype_type]; kernel_rfl) (by rw [isSubtype_type]; kernel_rfl) ?_
          refine wpAny_Name (ld_bi S D5 (by walk_at "mem") (by rfl) (by rfl) (by rfl) (by rfl) ?_) (by decide)
          refine ⟨rfl, ⟨oe, hoe, hce⟩, ?_⟩
          simp only [if_true]
          refine set_flight ⟨Tb, D5⟩ fun h6 D6 => ?_
          obtain ⟨Tb, D6⟩ := D6
          have D8 := D6.drop.drop
          walk_at "ex"
          refine wpAny_Call_append (by rfl) (by rfl) (by rfl) (by rfl) ?_
          walk_at "nl"
          refine ⟨tl, _, rfl, D8.plainL (by walk_at "mem"), ?_⟩
          refine List_ ?_
          refine args_cons ?_
          refine k_str ?_
          refine args_cons ?_
          refine List_ ?_
          refine args_nil ?_
          refine mk_list D8 (by decide) (fun bl h9 D9 => ?_)
          refine args_nil ?_
          have D10 := (D9.perm (List.Perm.swap _ _ _)).freeze
          refine mk_list D10 (by show 2 ≤ sizeLine; decide) (fun el h11 D11 => ?_)
          have D12 := (D11.perm (List.Perm.swap _ _ _)).freeze
          refine append_ D12 (.there .here) (by unfold sizeLine; omega) (fun h13 D13 => ?_)
          refine wpAny_execs_nil ?_
          have hents2 : ∀ tk, AreEnts ((el, LListP [.str (Str.ofString "cut") tk, .ref bl]) :: (bl, LListP []) :: fz2) (vs ++ [.ref el]) (es ++ [.cut]) := fun tk =>
            AreEnts.snoc (hents.mono fun p hp => .tail _ (.tail _ (hsub2 _ hp))) ⟨el, tk, .ref bl, rfl, .head _, ⟨bl, [], rfl, .tail _ (.head _), .nil⟩⟩
          exact ⟨rfl, false, _, _, _, _, h13, _, rfl, fun p hp => .tail _ (.tail _ (hsub2 _ hp)), hents2 _, D13, .inr ⟨rfl, .cut hj htr (by omega) hrun hc, rfl, by simp; omega⟩⟩
end
end

section
/-! ## _law_told, whole -/
section
variable {prog : Program} {w : World} {A : Around} {E : Value → Shared → Prop} {B h : Heap} {live live' rest fz : List Ent} {g : Array GenState} {d : Drawn} {t : Nat} {os : OsState} {mg mb : Str → Option Value} {fa : Nat → Addr} {f0 : Ent}

theorem list_add {Q : Value → Shared → Prop} {l b : Addr} {xs ys : List Value} (D : Led B h (f0 :: rest) fz) (hl : h.IsList l xs.toArray) (hb : h.IsList b ys.toArray) (hs : xs.length + ys.length ≤ 1000)
    (hq : ∀ r h', Led B h' (f0 :: (r, LListP (xs ++ ys)) :: rest) fz → Q (.ref r) ⟨h', g, d, t, os⟩) : wpAny (model prog w) A (binaryOp .Add (.ref l) (.ref b)) Q E ⟨h, g, d, t, os⟩ := by
  refine cps fun PP kk => ?_
  obtain ⟨⟨cls, dd, data, sl⟩, ho, hc, n, hdt⟩ := id hl
  obtain ⟨⟨cls2, dd2, data2, sl2⟩, ho2, hc2, n2, hdt2⟩ := id hb
  refine kk ?_
  clear kk PP
  simp only at hc hdt hc2 hdt2
  subst hc hdt hc2 hdt2
  exact concat_meets (s := ⟨h, g, d, t, os⟩) ⟨_, ho, rfl⟩ ⟨_, ho2, rfl⟩ noFill_list_add seq_list_add F.slot_list_add F.entry_list_add (F.args_list_add_2 _ _) (list_addW l b xs.toArray ys.toArray n n2 dd dd2 sl sl2 (by simp [sizeLine_eq]; omega))
    ⟨ho, ho2, hq _ _ (D.alloc2 (P := LListP (xs ++ ys)) ⟨0, by simp⟩ rfl)⟩
theorem iter_list_call {Q : Value → Shared → Prop} {l : Addr} {xs : List Value} (D : Led B h (f0 :: rest) fz) (hl : h.IsList l xs.toArray)
    (hq : ∀ it h', Led B h' (f0 :: (it, TapeP l xs.length 0) :: rest) fz → Q (.ref it) ⟨h', g, d, t, os⟩) : wpAny (model prog w) A (call (.builtin "iter") [.ref l]) Q E ⟨h, g, d, t, os⟩ := by
  refine PySem.Calls.call_function_entry (by decide +kernel) (by decide +kernel) kdk_entry_iter (kdk_args_iter _) ?_
  unfold Builtin.«iter»
  refine wpAny_bind (m := someArgs "iter" 1 2 _) (wpAny_of_eq (a := [Value.ref l]) (by first | rfl | kernel_rfl!) ?_)
  dsimp only
  exact wpAny_bind (it_list D hl fun it h' D' => wpAny_pure ⟨_, rfl, hq it h' D'⟩)

theorem told_call {Q : Value → Shared → Prop} {nl P c0 : Addr} {nvs : List Value} {ns r : List Int} {w0 : Int} {tw0 : Tok} {outer : List Env} {R : List Ent} (pick : Int → List Rec → List Int) (S : Stat B mg mb fa) (TC : ToldCode B mg fa c0 P)
    (hpick : ∀ n recs heads, 0 < n → (recs = [] ∧ heads = [] ∨ Sel n recs heads) → heads = pick n recs) (hpre : ns = 4 :: 9 :: 3 :: 7 :: 20 :: 12 :: r) (hlen : ns.length ≤ 74) (hw1 : -1 ≤ w0) (hw2 : w0 ≤ 2)
    (hnl : (nl, LListP nvs) ∈ fz) (hnv : IntsAre nvs ns) (D : Led B h ((P, TabP) :: R) fz)
    (hh : A.handled = none) (hd : A.depth + 10 < recursionLimit) (hu : A.units + 120 < cLine) (hfr : A.frames = some outer) (hF : FrOk R outer)
    (hq : ∀ es vs rl fz' h' t', (∀ p, p ∈ fz → p ∈ fz') → (P, GrownP) ∈ fz' → Fin4 pick ns w0 es → AreEnts fz' vs (es ++ [.left]) → (rl, LListP vs) ∈ fz' → Led B h' R fz' → Q (.ref rl) ⟨h', g, d, t', os⟩) :
    wpAny (model prog w) A (call (.ref (fa 7)) [.ref nl, .int w0 tw0]) Q E ⟨h, g, d, t, os⟩ := by
  have hlv := IntsAre.len hnv
  refine told_enter S TC D (by omega) (fun c L h1 t1 D1 => ?_)
  have hfr' : (A.deeper (toldEnv c L (fa 7) c0)).frames = some (toldEnv c L (fa 7) c0 :: outer) := by show (A.frames.map _) = _; rw [hfr]; rfl
  walk_at "as"
  refine Call_ ?_
  walk_at "nb"
  refine PyProof.Rows.callWith_builtin1 ?_
  refine args_cons ?_
  walk_at "nl"
  refine args_nil ?_
  refine iter_list_call D1 (D1.flist hnl) (fun tp h2 D2 => ?_)
  rw [hlv] at D2
  refine st_cell D2 (.there (.there .here)) (by rfl) (by rfl) (by rfl) (fun h3 D3 => ?_)
  have D4 : Led B h3 ((L, FrameP [(Str.ofString "numbers", .ref nl), (sWish, .int w0 tw0)]) :: (P, TabP) :: (tp, TapeP nl ns.length 0) :: R) ((c, CellP (.ref tp)) :: fz) := by
    have D5 : Led B h3 ((c, CellP (.ref tp)) :: (L, FrameP [(Str.ofString "numbers", .ref nl), (sWish, .int w0 tw0)]) :: (P, TabP) :: (tp, TapeP nl ns.length 0) :: R) fz := by
      refine D3.perm ?_
      exact (List.Perm.swap _ _ _).trans ((((List.Perm.swap _ _ _).cons _).trans (List.Perm.swap _ _ _)).cons _)
    exact D5.freeze
  refine wpAny_execs_cons ?_
  refine nestDef_K (by rfl) (by rfl) (by rfl) ?_
  refine mk_key S TC D4 (by rfl) (fun kf cd h6 t6 D6 => ?_)
  walk_at "st"
  intro h7 t7 D7
  walk_at "as"
  refine List_ ?_
  refine args_nil ?_
  refine mk_list D7 (by decide) (fun tl h8 D8 => ?_)
  walk_at "st"
  intro h9 t9 D9
  walk_at "as"
  refine k_bool ?_
  walk_at "st"
  intro h10 t10 D10
  have T1 : Tape ((kf, KeyP c cd) :: (cd, CodeP keyQual) :: (P, GrownP) :: (c, CellP (.ref tp)) :: fz) nl c kf tp ns :=
    ⟨⟨nvs, .tail _ (.tail _ (.tail _ (.tail _ hnl))), hnv⟩, .tail _ (.tail _ (.tail _ (.head _))), ⟨cd, .head _, .tail _ (.head _)⟩⟩
  refine told_while pick S T1 hpick hpre hlen hw1 hw2 D10 hh (by show A.depth + 1 + 8 < recursionLimit; omega) (by show A.units + 3 + 100 < cLine; omega) hfr' hF ?_
  intro s hs
  cases hs with
  | @off es w2 vs tw2 fz2 h11 t11 hfin hel hsub hents D11 =>
    have hvl := hents.len
    refine wpAny_execs_cons ?_
    refine wpAny_Return_some ?_
    refine wpAny_BinOp ?_
    walk_at "nl"
    refine List_ ?_
    refine args_cons ?_
    refine List_ ?_
    refine args_cons ?_
    refine k_str ?_
    refine args_cons ?_
    refine Call_ ?_
    walk_at "nb"
    refine Pv.callWith_type1 ?_
    refine args_cons ?_
    refine wpAny_Name (ld_cell D11 (.inr (hsub _ T1.cell)) (by rfl) (by rfl) (.inl (by rfl)) ?_) (by decide)
    refine args_nil ?_
    refine list_of_tape_end hh hlv (hsub _ (.tail _ (.tail _ (.tail _ (.tail _ hnl))))) D11 (.there (.there .here)) (fun bl h12 D12 => ?_)
    refine args_nil ?_
    refine mk_list D12 (by show 2 ≤ sizeLine; decide) (fun el h13 D13 => ?_)
    have D14 := (D13.perm (List.Perm.swap _ _ _)).freeze
    refine args_nil ?_
    refine mk_list D14 (by show 1 ≤ sizeLine; decide) (fun ol h15 D15 => ?_)
    refine list_add D15 (D15.list (l := tl) (by walk_at "mem")) (D15.list (l := ol) (by walk_at "mem")) (by simp; omega) (fun rl h16 D16 => ?_)
    have D17 := (D16.perm (List.Perm.swap _ _ _)).freeze
    have hents2 : ∀ tk, AreEnts ((rl, LListP (vs ++ [.ref el])) :: (el, LListP [.str (Str.ofString "left") tk, .ref bl]) :: (bl, LListP []) :: fz2) (vs ++ [.ref el]) (es ++ [.left]) := fun tk =>
      AreEnts.snoc (hents.mono fun p hp => .tail _ (.tail _ (.tail _ hp))) ⟨el, tk, .ref bl, rfl, .tail _ (.head _), ⟨bl, [], rfl, .tail _ (.tail _ (.head _)), .nil⟩⟩
    exact hq es _ rl _ h16 _ (fun p hp => .tail _ (.tail _ (.tail _ (hsub _ (.tail _ (.tail _ (.tail _ (.tail _ hp)))))))) (.tail _ (.tail _ (.tail _ (hsub _ (.tail _ (.tail _ (.head _))))))) hfin (hents2 _) (.head _) D17.drop.drop.drop.drop
end
end

section
set_option maxRecDepth 100000
/-! ## _law_few -/
def bestFrom (l : List Rec) : Nat → Nat → Nat → Nat
  | 0, _, b => b
  | f + 1, k, b => bestFrom l f (k + 1) (match l[k]?, l[b]? with | some x, some y => if ilt x.2 y.2 then k else b | _, _ => b)
def bestI (l : List Rec) : Nat := bestFrom l (l.length - 1) 1 0
def selN : Nat → List Rec → List Int
  | 0, _ => []
  | n + 1, l => match l[bestI l]? with
    | some x => x.1 :: selN n (l.eraseIdx (bestI l))
    | none => []
theorem bestFrom_lt (l : List Rec) : ∀ (f k b : Nat), k + f ≤ l.length → b < l.length → bestFrom l f k b < l.length
  | 0, _, _, _, h => h
  | f + 1, k, b, h1, h2 => by
    rw [bestFrom]
    refine bestFrom_lt l f (k + 1) _ (by omega) ?_
    rw [List.getElem?_eq_getElem (show k < l.length by omega), List.getElem?_eq_getElem h2]
    dsimp only
    split <;> omega
theorem bestI_lt {l : List Rec} (h : l ≠ []) : bestI l < l.length := by
  have : 0 < l.length := List.length_pos_iff.mpr h
  exact bestFrom_lt l _ _ _ (by omega) this
theorem erase_map {α β : Type} (f : α → β) : ∀ (l : List α) (i : Nat), (l.map f).eraseIdx i = (l.eraseIdx i).map f
  | [], _ => rfl
  | _ :: _, 0 => rfl
  | x :: l, i + 1 => by
    show f x :: (l.map f).eraseIdx i = f x :: (l.eraseIdx i).map f
    rw [erase_map f l i]
def IsRec (fz : List Ent) (v : Value) (r : Rec) : Prop := ∃ a th rv, v = .ref a ∧ (a, TupP [.int r.1 th, rv]) ∈ fz ∧ IsInts fz rv r.2
theorem IsRec.mono {fz fz' : List Ent} {v : Value} {r : Rec} (x : IsRec fz v r) (hs : ∀ p, p ∈ fz → p ∈ fz') : IsRec fz' v r := let ⟨a, th, rv, e, m, i⟩ := x; ⟨a, th, rv, e, hs _ m, i.mono hs⟩

section
variable {prog : Program} {w : World} {A : Around} {Q E : Value → Shared → Prop} {B h : Heap} {live live' rest fz : List Ent} {g : Array GenState} {d : Drawn} {t : Nat} {os : OsState} {mg mb : Str → Option Value} {fa : Nat → Addr}

theorem ne_nil {l b : Addr} {xs : List Value} (hl : h.IsList l xs.toArray) (hb : h.IsList b ([] : List Value).toArray) (hu : A.units < cLine) (hq : Q (.bool (!xs.isEmpty)) ⟨h, g, d, t, os⟩) :
    wpAny (model prog w) A (compareOp .NotEq (.ref l) (.ref b)) Q E ⟨h, g, d, t, os⟩ := by
  refine cps fun PP kk => ?_
  obtain ⟨⟨cls, dd, data, sl⟩, ho, hc, n, hdt⟩ := id hl
  obtain ⟨⟨cls2, dd2, data2, sl2⟩, ho2, hc2, n2, hdt2⟩ := id hb
  refine kk ?_
  clear kk PP
  simp only at hc hdt hc2 hdt2
  subst hc hdt hc2 hdt2
  show wpAny _ _ (richCompare .NotEq (.ref l) (.ref b)) _ _ _
  cases xs with
  | nil =>
    exact richCompare_meets_room (s := ⟨h, g, d, t, os⟩) (op := .NotEq) ⟨_, ho, rfl⟩ ⟨_, ho2, rfl⟩ F.slot_list_ne F.entry_list_ne (F.args_list_ne_2 _ _) (list_neAt l b #[] #[] n n2 dd dd2 sl sl2 rfl (fun _ => true))
      ⟨ho, ho2, fun j h1 _ => absurd h1 (Nat.not_lt_zero _), (fun x => nomatch x), hq⟩ hu
  | cons x xs =>
    exact richCompare_meets_room (s := ⟨h, g, d, t, os⟩) (op := .NotEq) ⟨_, ho, rfl⟩ ⟨_, ho2, rfl⟩ F.slot_list_ne F.entry_list_ne (F.args_list_ne_2 _ _) (list_ne_lengthsAt l b (x :: xs).toArray #[] n n2 dd dd2 sl sl2 (by simp))
      ⟨ho, ho2, (fun x => nomatch x), hq⟩ hu

theorem pop_at {l : Addr} {xs : List Value} {pos : Pos} {x : Sem Value} (hs : xs.length ≤ 1000)
    (hx : wpAny (model prog w) A x (fun y s₁ => ∃ k u v h t live live' fz, y = .int (k : Nat) u ∧ s₁ = ⟨h, g, d, t, os⟩ ∧ Led B h live fz ∧ Put l (LListP xs) (LListP (xs.eraseIdx k)) live live' ∧ xs[k]? = some v ∧ ∀ h', Led B h' live' fz → Q v ⟨h', g, d, t, os⟩) E ⟨h, g, d, t, os⟩) :
    wpAny (model prog w) A (callWith pos (.builtin "list.pop") [.ref l] [(false, x)] []) Q E ⟨h, g, d, t, os⟩ := by
  refine PySem.P.pop_at_list (wpAny_mono hx (fun y s₁ h₁ => ?_) fun _ _ e => e)
  refine cps fun PP kk => ?_
  obtain ⟨k, u, v, h, t, live, live', fz, rfl, rfl, D, p, hxk, hq⟩ := h₁
  refine kk ?_
  clear kk PP
  have hkl : k < xs.length := (List.getElem?_eq_some_iff.mp hxk).1
  refine cps fun PP kk => ?_
  obtain ⟨o, ho, m, rfl⟩ := D.rd p.mem
  refine kk ?_
  clear kk PP
  refine ⟨xs.toArray, m, (k : Int), u, k, v, by rw [sizeLine_eq, List.size_toArray]; omega, rfl, ho, ?_, ?_, by simpa using hxk, hq _ ?_⟩
  · simp [Builtin.List.listFitsIndex]; omega
  · unfold seqIndex?
    simp
    omega
  · refine D.upd p ho ?_ rfl
    obtain ⟨n', e⟩ : ∃ n', Obj.mapSeq (fun xs : Array Value => xs.eraseIdxIfInBounds k) (lstO xs m) = { cls := .type "list", data := .seq (xs.toArray.eraseIdxIfInBounds k) n' } := ⟨_, rfl⟩
    refine ⟨n', e.trans ?_⟩
    simp

theorem few_call {rl : Addr} {recs : List (Value × Rec)} {wish : Int} {tw : Tok} (S : Stat B mg mb fa) (D : Led B h live fz) (hm : (rl, LListP (recs.map (·.1))) ∈ live) (hT : ∀ x, x ∈ recs → IsRec fz x.1 x.2) (hl : recs.length ≤ 500)
    (hh : A.handled = none) (hd : A.depth + 3 < recursionLimit) (hu : A.units + 40 < cLine)
    (hq : ∀ tl fz' h' t', (∀ p, p ∈ fz → p ∈ fz') → IsInts fz' (.ref tl) (selN wish.toNat (recs.map (·.2))) → Led B h' live fz' → Q (.ref tl) ⟨h', g, d, t', os⟩) :
    wpAny (model prog w) A (call (.ref (fa 8)) [.ref rl, .int wish tw]) Q E ⟨h, g, d, t, os⟩ := by
  refine enter (binds := [(Str.ofString "records", .ref rl), (Str.ofString "wish", .int wish tw)]) S.lim (S.fn 8 _ (by walk_at "mem")).2 D (by omega) (fun _ _ _ _ _ _ => by rfl) (by decide +kernel) (by rfl) (by rfl) (fun cdv L h1 t1 D1 => ?_)
  walk_at "as"
  refine List_ ?_
  refine args_nil ?_
  refine mk_list D1 (by decide) (fun tl h2 D2 => ?_)
  walk_at "st"
  intro h3 t3 D3
  walk_at "as"
  refine Call_ ?_
  walk_at "nb"
  refine Pv.callWith_type1 ?_
  refine args_cons ?_
  walk_at "nl"
  refine args_nil ?_
  refine list_of_list D3 (D3.list (.tail _ (.tail _ hm))) (by simp; omega) (fun ll h4 D4 => ?_)
  walk_at "st"
  intro h5 t5 D5
  refine wpAny_execs_cons ?_
  refine while_ (fun m s => ∃ (h' : Heap) (t' : Nat) (left : List (Value × Rec)) (tvs : List Value) (tns : List Int), s = ⟨h', g, d, t', os⟩ ∧ m = left.length ∧ left.length ≤ recs.length ∧ (∀ x, x ∈ left → x ∈ recs) ∧ IntsAre tvs tns ∧ tns.length + left.length = recs.length ∧
      tns ++ selN (wish.toNat - tns.length) (left.map (·.2)) = selN wish.toNat (recs.map (·.2)) ∧
      Led B h' ((L, FrameP [(Str.ofString "records", .ref rl), (Str.ofString "wish", .int wish tw), (Str.ofString "told", .ref tl), (Str.ofString "left", .ref ll)]) :: (ll, LListP (left.map (·.1))) :: (tl, LListP tvs) :: live) fz)
    (fun s => ∃ (h' : Heap) (t' : Nat) (tvs : List Value) (lvs : List Value), s = ⟨h', g, d, t', os⟩ ∧ IntsAre tvs (selN wish.toNat (recs.map (·.2))) ∧
      Led B h' ((L, FrameP [(Str.ofString "records", .ref rl), (Str.ofString "wish", .int wish tw), (Str.ofString "told", .ref tl), (Str.ofString "left", .ref ll)]) :: (ll, LListP lvs) :: (tl, LListP tvs) :: live) fz)
    recs.length ⟨h5, _, recs, [], [], rfl, rfl, Nat.le_refl _, fun _ hx => hx, .nil, by simp, by simp, D5⟩ ?turn ?post
  case post =>
    intro s hEx
    refine cps fun PP kk => ?_
    obtain ⟨h6, t6, tvs, lvs, rfl, hi, D6⟩ := hEx
    refine kk ?_
    clear kk PP
    refine wpAny_execs_cons ?_
    refine wpAny_Return_some ?_
    walk_at "nl"
    have D7 := D6.drop.drop.freeze
    exact hq tl _ h6 _ (fun p hp => .tail _ hp) ⟨tl, tvs, rfl, .head _, hi⟩ D7
  case turn =>
    intro m s hEx
    refine cps fun PP kk => ?_
    obtain ⟨h6, t6, left, tvs, tns, rfl, rfl, hll, hmem, hi, hsum, hsel, D6⟩ := hEx
    refine kk ?_
    clear kk PP
    have htl := IntsAre.len hi
    refine isTrue_and ?_
    refine wpAny_isTrue_Compare1 ?_
    walk_at "nl"
    refine List_ ?_
    refine args_nil ?_
    refine mk_list D6 (by decide) (fun nl2 h7 D7 => ?_)
    refine ne_nil (D7.list (l := ll) (by walk_at "mem")) (D7.list (l := nl2) (by walk_at "mem")) (by show A.units + 3 < cLine; omega) (wpAny_truthy_bool ?_)
    have D8 := D7.drop2
    by_cases hle : left = []
    · subst hle
      simp only [List.map_nil, List.isEmpty_nil, Bool.not_true, Bool.false_eq_true, if_false]
      refine ⟨h7, _, tvs, [], rfl, ?_, D8⟩
      rw [← hsel]
      have : selN (wish.toNat - tns.length) (([] : List (Value × Rec)).map (·.2)) = [] := by
        cases wish.toNat - tns.length <;> rfl
      rw [this, List.append_nil]
      exact hi
    · have hpos : 0 < left.length := List.length_pos_iff.mpr hle
      rw [show (!(left.map (·.1)).isEmpty) = true by simp [hle]]
      simp only [if_true]
      refine isTrue_and ?_
      refine wpAny_isTrue_Compare1 ?_
      refine Call_ ?_
      walk_at "nb"
      refine PyProof.Rows.callWith_builtin1 ?_
      refine args_cons ?_
      walk_at "nl"
      refine args_nil ?_
      refine o_len (D8.list (l := tl) (by walk_at "mem")) (by omega) (fun u9 t9 => ?_)
      walk_at "nl"
      refine lt_int (wpAny_truthy_bool ?_)
      by_cases hlt : (tvs.length : Int) < wish
      · rw [decide_eq_true hlt]
        simp only [if_true]
        refine isTrue_and_nil ?_
        simp only [if_true]
        walk_at "as"
        walk_at "ci"
        walk_at "st"
        intro h10 t10 D10
        refine wpAny_execs_cons ?_
        refine wpAny_For ?_
        refine Call_ ?_
        walk_at "nb"
        refine Pv.callWith_type1 ?_
        refine args_cons ?_
        walk_at "ci"
        refine args_cons ?_
        refine Call_ ?_
        walk_at "nb"
        refine PyProof.Rows.callWith_builtin1 ?_
        refine args_cons ?_
        walk_at "nl"
        refine args_nil ?_
        refine o_len (D10.list (l := ll) (by walk_at "mem")) (by simp; omega) (fun u11 t11 => ?_)
        rw [List.length_map]
        refine args_nil ?_
        refine mk_range2 D10 (fun r h12 t12 D12 => ?_)
        refine it_range D12 (by omega) (by omega) (by omega) (by omega) (fun ri h13 D13 => ?_)
        rw [show (if (1 : Int) < (left.length : Int) then (left.length : Int) - 1 else 0) = ((left.length - 1 : Nat) : Int) by split <;> omega] at D13
        refine codeAny_forLoop (fun m s => ∃ (h' : Heap) (t' : Nat) (k b : Nat) (tb : Tok) (kvs : List (Str × Value)), s = ⟨h', g, d, t', os⟩ ∧ m + k = left.length ∧ 1 ≤ k ∧ b < left.length ∧ bestFrom (left.map (·.2)) m k b = bestI (left.map (·.2)) ∧
          Led B h' ((L, FrameP [(Str.ofString "records", .ref rl), (Str.ofString "wish", .int wish tw), (Str.ofString "told", .ref tl), (Str.ofString "left", .ref ll), (Str.ofString "best", .int b tb)]) :: (ri, RIterP (k : Int) (m : Int) 1) :: (ll, LListP (left.map (·.1))) :: (tl, LListP tvs) :: live) fz) ?turn2 (left.length - 1)
          ⟨h13, _, 1, 0, _, [], rfl, by omega, Nat.le_refl _, hpos, by unfold bestI; rw [List.length_map], D13⟩
        intro m s hEx
        refine cps fun PP kk => ?_
        obtain ⟨h14, t14, k, b, tb, kvs, rfl, hmk, hk1, hbl, hbest, D14⟩ := hEx
        refine kk ?_
        clear kk PP
        cases m with
        | zero =>
          refine next_rend D14 (by walk_at "mem") hh (by omega) (fun h15 D15 => ?_)
          refine wpAny_execs_nil ?_
          rw [bestFrom] at hbest
          refine cps fun PP kk => ?_
          obtain ⟨x0, hx0⟩ : ∃ x, left[b]? = some x := ⟨_, List.getElem?_eq_getElem hbl⟩
          obtain ⟨ta, th, rv, ex, mta, hrv⟩ := hT x0 (hmem _ (List.mem_of_getElem? hx0))
          refine kk ?_
          clear kk PP
          walk_at "ex"
          refine wpAny_Call_append (by rfl) (by rfl) (by rfl) (by rfl) ?_
          walk_at "nl"
          refine ⟨tl, _, rfl, D15.plainL (by walk_at "mem"), ?_⟩
          refine Subscript_ ?_
          refine wpAny_Call_method1_late (by rfl) (by rfl) (by rfl) ?_
          walk_at "nl"
          refine cps fun PP kk => ?_
          obtain ⟨ol, hol, n', rfl⟩ := D15.rd (a := ll) (by walk_at "mem")
          refine kk ?_
          clear kk PP
          refine ⟨"list", "list.pop", F.plainAttrs_list, F.slot_list_pop, F.type_list_pop, ⟨_, hol, rfl⟩, fun a ea => by cases ea; exact ⟨_, hol, rfl⟩, ?_⟩
          refine pop_at (B := B) (xs := left.map (·.1)) (by simp; omega) ?_
          walk_at "nl"
          refine ⟨b, tb, x0.1, h15, _, _, _, fz, rfl, rfl, D15, .there (.there .here), by rw [List.getElem?_map, hx0]; rfl, fun h16 D16 => ?_⟩
          rw [ex]
          walk_at "ci"
          refine item_tupleT (l := [.int x0.2.1 th, rv]) (j := 0) (x := .int x0.2.1 th) (D16.ftup mta) (by omega) (by omega) (by rfl) (by rfl) ?_
          refine append_ D16 (.there (.there (.there .here))) (by unfold sizeLine; omega) (fun h17 D17 => ?_)
          refine wpAny_execs_nil ?_
          have D18 := Led.fewer (kvs := [_, _, _, _]) (kvs' := [_]) D17.drop2
          rw [erase_map] at D18
          have hlen2 : (left.eraseIdx b).length + 1 = left.length := by rw [List.length_eraseIdx_of_lt hbl]; omega
          refine ⟨(left.eraseIdx b).length, by omega, h17, _, left.eraseIdx b, tvs ++ [.int x0.2.1 th], tns ++ [x0.2.1], rfl, rfl, by omega, fun x hx => hmem _ (List.mem_of_mem_eraseIdx hx), IntsAre.snoc hi, by simp; omega, ?_, D18⟩
          rw [← hsel, List.append_assoc]
          congr 1
          have hn : wish.toNat - tns.length = (wish.toNat - (tns ++ [x0.2.1]).length) + 1 := by simp; omega
          rw [hn, selN, ← hbest, List.getElem?_map, hx0]
          simp only [Option.map_some, erase_map]
          rfl
        | succ m =>
          have hk : k < left.length := by omega
          refine next_riter D14 (by walk_at "put") (by omega) (fun h15 t15 D15 => ?_)
          refine wpAny_assign_Name ?_
          walk_at "st"
          intro h16 t16 D16
          refine cps fun PP kk => ?_
          obtain ⟨xk, hxk⟩ : ∃ x, left[k]? = some x := ⟨_, List.getElem?_eq_getElem hk⟩
          obtain ⟨xb, hxb⟩ : ∃ x, left[b]? = some x := ⟨_, List.getElem?_eq_getElem hbl⟩
          obtain ⟨ta, th, rv, ex, mta, hrv⟩ := hT xk (hmem _ (List.mem_of_getElem? hxk))
          obtain ⟨ta', th', rv', ex', mta', hrv'⟩ := hT xb (hmem _ (List.mem_of_getElem? hxb))
          refine kk ?_
          clear kk PP
          walk_at "if"
          refine wpAny_isTrue_Compare1 ?_
          refine Subscript_ ?_
          refine Subscript_ ?_
          walk_at "nl"
          walk_at "nl"
          refine item_list (v := xk.1) (D16.list (l := ll) (by walk_at "mem")) (by omega) (by omega) (by rw [Int.toNat_natCast, List.getElem?_map, hxk]; rfl) ?_
          rw [ex]
          walk_at "ci"
          refine item_tupleT (l := [.int xk.2.1 th, rv]) (j := 1) (x := rv) (D16.ftup mta) (by omega) (by omega) (by rfl) (by rfl) ?_
          refine Subscript_ ?_
          refine Subscript_ ?_
          walk_at "nl"
          walk_at "nl"
          refine item_list (v := xb.1) (D16.list (l := ll) (by walk_at "mem")) (by omega) (by omega) (by rw [Int.toNat_natCast, List.getElem?_map, hxb]; rfl) ?_
          rw [ex']
          walk_at "ci"
          refine item_tupleT (l := [.int xb.2.1 th', rv']) (j := 1) (x := rv') (D16.ftup mta') (by omega) (by omega) (by rfl) (by rfl) ?_
          refine cmp_lt (ltAt_ints D16 hrv hrv' (by show A.units + 3 < cLine; omega)) (wpAny_truthy_bool ?_)
          rw [bestFrom, List.getElem?_map, List.getElem?_map, hxk, hxb] at hbest
          simp only [Option.map_some] at hbest
          have e1 : ((m + 1 : Nat) : Int) - 1 = (m : Int) := by omega
          have e2 : (k : Int) + 1 = ((k + 1 : Nat) : Int) := by omega
          refine split_bool (fun hlt2 => ?_) (fun hlt2 => ?_)
          · walk_at "as"
            walk_at "nl"
            walk_at "st"
            intro h17 t17 D17
            refine wpAny_execs_nil ?_
            refine wpAny_execs_nil ?_
            rw [hlt2] at hbest
            rw [e1, e2] at D17
            exact ⟨m, Nat.lt_succ_self _, h17, _, k + 1, k, _, [], rfl, by omega, by omega, hk, hbest, Led.fewer (kvs := [_, _, _, _, _]) (kvs' := [_]) D17⟩
          · refine wpAny_execs_nil ?_
            refine wpAny_execs_nil ?_
            rw [hlt2] at hbest
            rw [e1, e2] at D16
            exact ⟨m, Nat.lt_succ_self _, h16, _, k + 1, b, _, [], rfl, by omega, by omega, hbl, hbest, Led.fewer (kvs := [_, _, _, _, _]) (kvs' := [_]) D16⟩
      · rw [decide_eq_false hlt]
        simp only [Bool.false_eq_true, if_false]
        refine ⟨h7, _, tvs, _, rfl, ?_, D8⟩
        rw [← hsel, show wish.toNat - tns.length = 0 by omega]
        rw [selN, List.append_nil]
        exact hi
end
end

section
set_option maxRecDepth 100000
/-! ## _law_due -/
theorem slice_any (items : Array Value) (a b : Nat) (hab : a ≤ b) : slicePick items (some (a : Int)) (some (b : Int)) none = ((items.toList.drop a).take (b - a)).toArray := by
  rw [slicePick_plain]
  simp only [Option.elim, clipAt_nat]
  congr 1
  rcases Nat.le_total a items.size with h | h
  · rw [Nat.min_eq_left h, List.take_eq_take_iff]
    simp
    omega
  · rw [Nat.min_eq_right h, List.drop_of_length_le (by simp), List.drop_of_length_le (by simpa using h)]; simp
section
variable {prog : Program} {w : World} {A : Around} {Q E : Value → Shared → Prop} {B h : Heap} {live live' rest fz : List Ent} {g : Array GenState} {d : Drawn} {t : Nat} {os : OsState} {mg mb : Str → Option Value} {fa : Nat → Addr} {f0 : Ent}

theorem slice_ {value slice : Expr} {l : Addr} {xs : List Value} {a b : Nat} {ta tb : Tok} (D : Led B h (f0 :: rest) fz) (hl : h.IsList l xs.toArray) (hab : a ≤ b) (hs : xs.length ≤ 1000)
    (hq : ∀ r h', Led B h' (f0 :: (r, LListP ((xs.drop a).take (b - a))) :: rest) fz → Q (.ref r) ⟨h', g, d, t, os⟩)
    (hsb : subscripted slice false (.ref l) (.ref h.objs.size) = operate [.ref h.objs.size, .ref l] (getItem (.ref l) (.ref h.objs.size)) := by with_unfolding_all rfl)
    (ht : ∀ r, letTemporaryGo value (.ref l) r = pure () := by intro _; with_unfolding_all rfl) :
    wpAny (model prog w) A (subscriptTail value slice (.ref l) (.ref h.objs.size)) Q E ⟨h.push { cls := .type "slice", data := .fields #[.int a ta, .int b tb, .none] }, g, d, t, os⟩ := by
  refine slice_listK (s := ⟨h, g, d, t, os⟩) hl (.int (a : Int) ta) (.int (b : Int) tb) ?_ hsb ht (by simp [sizeLine_eq]; omega)
  rw [slice_any _ _ _ hab]
  have D1 := (D.skip (o := { cls := .type "slice", data := .fields #[.int a ta, .int b tb, .none] }) rfl).alloc2 (P := LListP ((xs.drop a).take (b - a))) (o := { cls := .type "list", data := .seq ((xs.drop a).take (b - a)).toArray }) ⟨0, rfl⟩ rfl
  rw [Heap.size_push] at D1
  exact hq _ _ D1

abbrev dk5 (nl dl : Addr) (wish : Int) (tw : Tok) (at' : Int) (ta : Tok) (gv : Bool) : List (Str × Value) :=
  [(Str.ofString "numbers", .ref nl), (sWish, .int wish tw), (Str.ofString "due", .ref dl), (Str.ofString "at", .int at' ta), (Str.ofString "going", .bool gv)]
abbrev dk7 (nl dl : Addr) (wish : Int) (tw : Tok) (at' : Int) (ta : Tok) (gv : Bool) (rl : Addr) (ev : Value) : List (Str × Value) :=
  [(Str.ofString "numbers", .ref nl), (sWish, .int wish tw), (Str.ofString "due", .ref dl), (Str.ofString "at", .int at' ta), (Str.ofString "going", .bool gv), (Str.ofString "records", .ref rl), (Str.ofString "end", ev)]

abbrev pickS (n : Int) (recs : List Rec) : List Int := selN n.toNat recs

inductive AfterD (B : Heap) (g : Array GenState) (d : Drawn) (os : OsState) (ns : List Int) (w0 : Int) (nl dl L : Addr) (R fz : List Ent) : Bool → Nat → Shared → Prop
  | on {es : List Ent4} {w : Int} {i : Nat} {vs : List Value} {tw ta : Tok} {fz' : List Ent} {h : Heap} {t : Nat} : Trace ns w0 es w i → (∀ p, p ∈ fz → p ∈ fz') → AreEnts fz' vs es →
      Led B h ((L, FrameP (dk5 nl dl w tw i ta true)) :: (dl, LListP vs) :: R) fz' → AfterD B g d os ns w0 nl dl L R fz true ((2 - w).toNat + (ns.length - i) + 1) ⟨h, g, d, t, os⟩
  | off {es : List Ent4} {w : Int} {vs : List Value} {tw ta : Tok} {at' : Int} {fz' : List Ent} {h : Heap} {t : Nat} : Fin4 pickS ns w0 es → es.length ≤ ns.length + 4 → (∀ p, p ∈ fz → p ∈ fz') → AreEnts fz' vs es →
      Led B h ((L, FrameP (dk5 nl dl w tw at' ta false)) :: (dl, LListP vs) :: R) fz' → AfterD B g d os ns w0 nl dl L R fz false 0 ⟨h, g, d, t, os⟩

inductive Inn (B : Heap) (g : Array GenState) (d : Drawn) (os : OsState) (ns : List Int) (w : Int) (i : Nat) (nl dl rl L : Addr) (tw : Tok) (vs : List Value) (R fz : List Ent) : Nat → Shared → Prop
  | run {recs : List (Value × Rec)} {j : Nat} {ta : Tok} {fz' : List Ent} {h : Heap} {t : Nat} : Run ns i (recs.map (·.2)) j → (w ≤ 0 → j = i ∧ recs = []) → (∀ p, p ∈ fz → p ∈ fz') → (∀ x, x ∈ recs → IsRec fz' x.1 x.2) →
      Led B h ((L, FrameP (dk7 nl dl w tw j ta (decide (w < 1)) rl .none)) :: (rl, LListP (recs.map (·.1))) :: (dl, LListP vs) :: R) fz' → Inn B g d os ns w i nl dl rl L tw vs R fz (ns.length - j + 1) ⟨h, g, d, t, os⟩
  | bad {recs : List Rec} {rvs : List Value} {j : Nat} (hj : j < ns.length) {el : Addr} {ta : Tok} {fz' : List Ent} {h : Heap} {t : Nat} : 0 < w → Run ns i recs j → j + 1 + rOf ns[j] ≤ ns.length → spoilt ns[j] = true → (∀ p, p ∈ fz → p ∈ fz') → IsEnt fz' (.ref el) (.spoilt ns[j] (restOf ns (j + 1) ns[j])) →
      Led B h ((L, FrameP (dk7 nl dl w tw ((j + 1 + rOf ns[j] : Nat) : Int) ta true rl (.ref el))) :: (rl, LListP rvs) :: (dl, LListP vs) :: R) fz' → Inn B g d os ns w i nl dl rl L tw vs R fz 0 ⟨h, g, d, t, os⟩
  | cut {recs : List Rec} {rvs : List Value} {j : Nat} (hj : j < ns.length) {el : Addr} {ta : Tok} {at' : Int} {fz' : List Ent} {h : Heap} {t : Nat} : 0 < w → Run ns i recs j → ns.length < j + 1 + rOf ns[j] → (∀ p, p ∈ fz → p ∈ fz') → IsEnt fz' (.ref el) .cut →
      Led B h ((L, FrameP (dk7 nl dl w tw at' ta false rl (.ref el))) :: (rl, LListP rvs) :: (dl, LListP vs) :: R) fz' → Inn B g d os ns w i nl dl rl L tw vs R fz 0 ⟨h, g, d, t, os⟩

set_option maxHeartbeats 4000000 in
theorem due_call {nl : Addr} {nvs : List Value} {ns : List Int} {w0 : Int} {tw0 : Tok} {R : List Ent} (S : Stat B mg mb fa) (hlen : ns.length ≤ 74) (hw1 : -1 ≤ w0) (hw2 : w0 ≤ 2)
    (hnl : (nl, LListP nvs) ∈ fz) (hnv : IntsAre nvs ns) (D : Led B h R fz)
    (hh : A.handled = none) (hd : A.depth + 10 < recursionLimit) (hu : A.units + 120 < cLine)
    (hq : ∀ es vs rl fz' h' t', (∀ p, p ∈ fz → p ∈ fz') → Fin4 pickS ns w0 es → AreEnts fz' vs (es ++ [.left]) → (rl, LListP vs) ∈ fz' → Led B h' R fz' → Q (.ref rl) ⟨h', g, d, t', os⟩) :
    wpAny (model prog w) A (call (.ref (fa 9)) [.ref nl, .int w0 tw0]) Q E ⟨h, g, d, t, os⟩ := by
  have hlv := IntsAre.len hnv
  refine enter (binds := [(Str.ofString "numbers", .ref nl), (sWish, .int w0 tw0)]) S.lim (S.fn 9 _ (by walk_at "mem")).2 D (by omega) (fun _ _ _ _ _ _ => by rfl) (by decide +kernel) (by rfl) (by rfl) (fun cdv L h1 t1 D1 => ?_)
  walk_at "as"
  refine List_ ?_
  refine args_nil ?_
  refine mk_list D1 (by decide) (fun dl h2 D2 => ?_)
  walk_at "st"
  intro h3 t3 D3
  walk_at "as"
  walk_at "ci"
  walk_at "st"
  intro h4 t4 D4
  walk_at "as"
  refine k_bool ?_
  walk_at "st"
  intro h5 t5 D5
  refine wpAny_execs_cons ?_
  refine while_ (fun m s => ∃ b, AfterD B g d os ns w0 nl dl L R fz b m s) (fun s => AfterD B g d os ns w0 nl dl L R fz false 0 s) _ ⟨true, .on .nil (fun _ hp => hp) .nil D5⟩ ?turn ?post
  case post =>
    intro s hs
    cases hs with
    | @off es w2 vs tw2 ta2 at2 fz2 h11 t11 hfin hel hsub hents D11 =>
      have hvl := hents.len
      refine wpAny_execs_cons ?_
      refine wpAny_Return_some ?_
      refine wpAny_BinOp ?_
      walk_at "nl"
      refine List_ ?_
      refine args_cons ?_
      refine List_ ?_
      refine args_cons ?_
      refine k_str ?_
      refine args_cons ?_
      refine List_ ?_
      refine args_nil ?_
      refine mk_list D11 (by decide) (fun bl h12 D12 => ?_)
      have D12' := (D12.perm (List.Perm.swap _ _ _)).freeze
      refine args_nil ?_
      refine mk_list D12' (by show 2 ≤ sizeLine; decide) (fun el h13 D13 => ?_)
      have D14 := (D13.perm (List.Perm.swap _ _ _)).freeze
      refine args_nil ?_
      refine mk_list D14 (by show 1 ≤ sizeLine; decide) (fun ol h15 D15 => ?_)
      refine list_add D15 (D15.list (l := dl) (by walk_at "mem")) (D15.list (l := ol) (by walk_at "mem")) (by simp; omega) (fun rl h16 D16 => ?_)
      have D17 := (D16.perm (List.Perm.swap _ _ _)).freeze
      have hents2 : ∀ tk, AreEnts ((rl, LListP (vs ++ [.ref el])) :: (el, LListP [.str (Str.ofString "left") tk, .ref bl]) :: (bl, LListP []) :: fz2) (vs ++ [.ref el]) (es ++ [.left]) := fun tk =>
        AreEnts.snoc (hents.mono fun p hp => .tail _ (.tail _ (.tail _ hp))) ⟨el, tk, .ref bl, rfl, .tail _ (.head _), ⟨bl, [], rfl, .tail _ (.tail _ (.head _)), .nil⟩⟩
      exact hq es _ rl _ h16 _ (fun p hp => .tail _ (.tail _ (.tail _ (hsub _ hp)))) hfin (hents2 _) (.head _) D17.drop.drop.drop
  case turn =>
    rintro m s ⟨b, hA⟩
    cases hA with
    | off hfin hel hsub hents D1 =>
      refine isTrue_plain ?_
      walk_at "nl"
      refine wpAny_truthy_bool ?_
      exact AfterD.off hfin hel hsub hents D1
    | @on es w1 i vs tw ta fz1 h6 t6 htr hsub hents D6 =>
      refine cps fun PP kk => ?_
      obtain ⟨hi, hwi, hw01, hwl, hwm⟩ := htr.facts hw2 hw1
      refine kk ?_
      clear kk PP
      have hvl := hents.len
      refine isTrue_plain ?_
      walk_at "nl"
      refine wpAny_truthy_bool ?_
      simp only [if_true]
      walk_at "as"
      refine wpAny_Compare1 ?_
      walk_at "nl"
      walk_at "ci"
      refine lt_int ?_
      walk_at "st"
      intro h7 t7 D7
      walk_at "as"
      refine List_ ?_
      refine args_nil ?_
      refine mk_list D7 (by decide) (fun rl h8 D8 => ?_)
      walk_at "st"
      intro h9 t9 D9
      walk_at "as"
      refine k_none ?_
      walk_at "st"
      intro h10 t10 D10
      refine wpAny_execs_cons ?_
      refine while_ (fun m s => Inn B g d os ns w1 i nl dl rl L tw vs R fz1 m s) (fun s => ∃ m, Inn B g d os ns w1 i nl dl rl L tw vs R fz1 m s ∧ (0 < w1 → m ≤ 1)) _ (.run (recs := []) .nil (fun _ => ⟨rfl, rfl⟩) (fun _ hp => hp) (by intro _ hx; simp at hx) D10) ?turn2 ?post2
      case post2 =>
        rintro s ⟨m, hI, hm⟩
        refine wpAny_execs_cons (wpAny_mono (Q := fun f s => f = .next ∧ ∃ (gv : Bool) (ev : Value) (ent : Ent4) (fz2 : List Ent) (rvs : List Value) (at2 : Int) (ta2 : Tok) (h2 : Heap) (t2 : Nat), s = ⟨h2, g, d, t2, os⟩ ∧ (∀ p, p ∈ fz1 → p ∈ fz2) ∧ IsEnt fz2 ev ent ∧
          Led B h2 ((L, FrameP (dk7 nl dl w1 tw at2 ta2 gv rl ev)) :: (rl, LListP rvs) :: (dl, LListP vs) :: R) fz2 ∧
          ((gv = true ∧ ∃ i2 : Nat, at2 = i2 ∧ Trace ns w0 (es ++ [ent]) (w1 + 1) i2 ∧ (2 - (w1 + 1)).toNat + (ns.length - i2) < (2 - w1).toNat + (ns.length - i)) ∨ (gv = false ∧ Fin4 pickS ns w0 (es ++ [ent])))) ?ifp ?rest (fun _ _ e => e))
        case rest =>
          intro f s hEx
          refine cps fun PP kk => ?_
          obtain ⟨rfl, gv, ev, ent, fz2, rvs, at2, ta2, h11, t11, rfl, hsub2, hent, D11, hcase⟩ := hEx
          refine kk ?_
          clear kk PP
          walk_at "ex"
          refine wpAny_Call_append (by rfl) (by rfl) (by rfl) (by rfl) ?_
          walk_at "nl"
          refine ⟨dl, _, rfl, D11.plainL (by walk_at "mem"), ?_⟩
          walk_at "nl"
          refine append_ D11 (.there (.there .here)) (by simp [sizeLine_eq]; omega) (fun h12 D12 => ?_)
          refine wpAny_execs_cons ?_
          refine wpAny_AugAssign_Name ?_
          refine ld_name D12 (by rfl) (by rfl) (by rfl) (by rfl) ?_
          walk_at "ci"
          refine o_iadd ?_
          walk_at "st"
          intro h13 t13 D13
          refine wpAny_execs_nil ?_
          have D14 := Led.fewer (kvs := dk5 nl dl (w1 + 1) _ at2 ta2 gv) (kvs' := [_, _]) D13.drop2
          have hents2 := AreEnts.snoc (hents.mono hsub2) hent
          rcases hcase with ⟨rfl, i2, rfl, htr2, hm2⟩ | ⟨rfl, hfin⟩
          · exact ⟨_, by omega, true, .on htr2 (fun p hp => hsub2 _ (hsub _ hp)) hents2 D14⟩
          · exact ⟨0, by omega, false, .off hfin (by simp; omega) (fun p hp => hsub2 _ (hsub _ hp)) hents2 D14⟩
        case ifp =>
          refine wpAny_If ?_
          refine wpAny_isTrue_Compare1 ?_
          cases hI with
          | @bad recs rvs j hj el ta2 fz2 h11 t11 hw hr hle hs hsub2 hent D11 =>
            have hrl := hr.len
            walk_at "nl"
            refine k_none ?_
            refine is_none_ne (by intro x; cases x) (wpAny_truthy_bool ?_)
            simp only [Bool.false_eq_true, if_false]
            refine wpAny_execs_nil ?_
            exact ⟨rfl, true, _, _, fz2, rvs, _, ta2, h11, _, rfl, hsub2, hent, D11, .inl ⟨rfl, _, rfl, .bad hj htr (by omega) hr hle hs, by omega⟩⟩
          | @cut recs rvs j hj el ta2 at2 fz2 h11 t11 hw hr hc hsub2 hent D11 =>
            walk_at "nl"
            refine k_none ?_
            refine is_none_ne (by intro x; cases x) (wpAny_truthy_bool ?_)
            simp only [Bool.false_eq_true, if_false]
            refine wpAny_execs_nil ?_
            exact ⟨rfl, false, _, _, fz2, rvs, _, ta2, h11, _, rfl, hsub2, hent, D11, .inr ⟨rfl, .cut hj htr (by omega) hr hc⟩⟩
          | @run recs j ta2 fz2 h11 t11 hr hwz hsub2 hrecs D11 =>
            have hjl := hr.le hi
            have hrl := hr.len
            simp only [List.length_map] at hrl
            walk_at "nl"
            refine k_none ?_
            refine is_none_none (wpAny_truthy_bool ?_)
            simp only [if_true]
            walk_at "as"
            refine List_ ?_
            refine args_cons ?_
            refine k_str ?_
            refine args_cons ?_
            refine Call_ ?_
            walk_at "nf"
            refine callWith_fn (S.fn 8 _ (by walk_at "mem")).2 ?_
            refine args_cons ?_
            walk_at "nl"
            refine args_cons ?_
            walk_at "nl"
            refine args_nil ?_
            refine ⟨D11.keep, ?_⟩
            refine few_call (recs := recs) S D11 (by walk_at "mem") hrecs (by omega) hh (by show A.depth + 1 + 3 < recursionLimit; omega) (by show A.units + 3 + 40 < cLine; omega) ?_
            intro fl fz3 h12 t12 hsub3 hints D12
            refine args_nil ?_
            refine mk_list D12 (by show 2 ≤ sizeLine; decide) (fun el h13 D13 => ?_)
            have D14 := (D13.perm (List.Perm.swap _ _ _)).freeze
            walk_at "st"
            intro h15 t15 D15
            refine wpAny_execs_nil ?_
            have hent : ∀ tk, IsEnt ((el, LListP [.str (Str.ofString "few") tk, .ref fl]) :: fz3) (.ref el) (.few (selN w1.toNat (recs.map (·.2)))) := fun tk => ⟨el, tk, .ref fl, rfl, .head _, hints.mono fun p hp => .tail _ hp⟩
            by_cases hw : 0 < w1
            · have hm1 := hm hw
              have ej : j = ns.length := by omega
              subst ej
              rw [decide_eq_false (show ¬ w1 < 1 by omega)] at D15
              exact ⟨rfl, false, _, _, _, _, _, ta2, h15, _, rfl, fun p hp => .tail _ (hsub3 _ (hsub2 _ hp)), hent _, D15, .inr ⟨rfl, .done htr (by omega) hr⟩⟩
            · obtain ⟨rfl, rfl⟩ := hwz (by omega)
              rw [decide_eq_true (show w1 < 1 by omega)] at D15
              have hent2 : ∀ tk, IsEnt ((el, LListP [.str (Str.ofString "few") tk, .ref fl]) :: fz3) (.ref el) (.few []) := fun tk => by
                have := hent tk
                rw [show w1.toNat = 0 by omega] at this
                exact this
              exact ⟨rfl, true, _, _, _, _, _, ta2, h15, _, rfl, fun p hp => .tail _ (hsub3 _ (hsub2 _ hp)), hent2 _, D15, .inl ⟨rfl, _, rfl, .none htr (by omega), by omega⟩⟩
      case turn2 =>
        intro m s hI
        cases hI with
        | @bad recs rvs j hj el ta2 fz2 h11 t11 hw hr hle hs hsub2 hent D11 =>
          refine isTrue_and ?_
          refine wpAny_isTrue_Compare1 ?_
          walk_at "nl"
          walk_at "ci"
          refine gt_int (wpAny_truthy_bool ?_)
          rw [decide_eq_true (show (0 : Int) < w1 from hw)]
          simp only [if_true]
          refine isTrue_and ?_
          refine wpAny_isTrue_Compare1 ?_
          walk_at "nl"
          refine k_none ?_
          refine is_none_ne (by intro x; cases x) (wpAny_truthy_bool ?_)
          simp only [Bool.false_eq_true, if_false]
          exact ⟨0, .bad hj hw hr hle hs hsub2 hent D11, fun _ => by omega⟩
        | @cut recs rvs j hj el ta2 at2 fz2 h11 t11 hw hr hc hsub2 hent D11 =>
          refine isTrue_and ?_
          refine wpAny_isTrue_Compare1 ?_
          walk_at "nl"
          walk_at "ci"
          refine gt_int (wpAny_truthy_bool ?_)
          rw [decide_eq_true (show (0 : Int) < w1 from hw)]
          simp only [if_true]
          refine isTrue_and ?_
          refine wpAny_isTrue_Compare1 ?_
          walk_at "nl"
          refine k_none ?_
          refine is_none_ne (by intro x; cases x) (wpAny_truthy_bool ?_)
          simp only [Bool.false_eq_true, if_false]
          exact ⟨0, .cut hj hw hr hc hsub2 hent D11, fun _ => by omega⟩
        | @run recs j ta2 fz2 h11 t11 hr hwz hsub2 hrecs D11 =>
          have hjl := hr.le hi
          have hrl := hr.len
          simp only [List.length_map] at hrl
          refine isTrue_and ?_
          refine wpAny_isTrue_Compare1 ?_
          walk_at "nl"
          walk_at "ci"
          refine gt_int (wpAny_truthy_bool ?_)
          by_cases hw : 0 < w1
          · rw [decide_eq_true (show (0 : Int) < w1 from hw)]
            simp only [if_true]
            refine isTrue_and ?_
            refine wpAny_isTrue_Compare1 ?_
            walk_at "nl"
            refine k_none ?_
            refine is_none_none (wpAny_truthy_bool ?_)
            simp only [if_true]
            refine isTrue_and ?_
            refine wpAny_isTrue_Compare1 ?_
            walk_at "nl"
            refine Call_ ?_
            walk_at "nb"
            refine PyProof.Rows.callWith_builtin1 ?_
            refine args_cons ?_
            walk_at "nl"
            refine args_nil ?_
            refine o_len (D11.flist (hsub2 _ (hsub _ hnl))) (by omega) (fun u12 t12 => ?_)
            rw [hlv]
            refine lt_int (wpAny_truthy_bool ?_)
            by_cases hjn : j < ns.length
            · rw [decide_eq_true (show (j : Int) < (ns.length : Int) by omega)]
              simp only [if_true]
              refine isTrue_and_nil ?_
              simp only [if_true]
              obtain ⟨tv, hv⟩ := ints_get hnv j hjn
              walk_at "as"
              refine Subscript_ ?_
              walk_at "nl"
              walk_at "nl"
              refine item_list (v := .int ns[j] tv) (D11.flist (hsub2 _ (hsub _ hnl))) (by omega) (by omega) (by rw [Int.toNat_natCast]; exact hv) ?_
              walk_at "st"
              intro h13 t13 D13
              walk_at "as"
              refine Subscript_ ?_
              walk_at "nl"
              refine wpAny_Slice ?_
              rw [evalPart_some, evalPart_some, evalPart_none]
              refine wpAny_BinOp ?_
              walk_at "nl"
              walk_at "ci"
              refine o_add ?_
              refine wpAny_BinOp ?_
              refine wpAny_BinOp ?_
              walk_at "nl"
              walk_at "ci"
              refine o_add ?_
              refine wpAny_BinOp ?_
              walk_at "nl"
              walk_at "ci"
              refine o_mod (by decide) ?_
              refine o_add ?_
              refine wpAny_pure ?_
              rw [← rOf_int, show (j : Int) + 1 = ((j + 1 : Nat) : Int) by omega, show ((j + 1 : Nat) : Int) + ((rOf ns[j] : Nat) : Int) = ((j + 1 + rOf ns[j] : Nat) : Int) by omega]
              refine slice_ D13 (D13.flist (hsub2 _ (hsub _ hnl))) (by omega) (by omega) (fun sl h14 D14 => ?_)
              have hri : IntsAre ((nvs.drop (j + 1)).take (j + 1 + rOf ns[j] - (j + 1))) (restOf ns (j + 1) ns[j]) := by
                rw [show j + 1 + rOf ns[j] - (j + 1) = rOf ns[j] by omega]
                exact (IntsAre.drop hnv _).take _
              generalize (nvs.drop (j + 1)).take (j + 1 + rOf ns[j] - (j + 1)) = rvs at hri D14
              have hrlen := IntsAre.len hri
              have hr2 := rOf_le ns[j]
              have hrl2 : rvs.length = min (rOf ns[j]) (ns.length - (j + 1)) := by rw [hrlen]; unfold restOf; simp
              walk_at "st"
              intro h15 t15 D15
              refine wpAny_execs_cons ?_
              refine wpAny_AugAssign_Name ?_
              refine ld_name D15 (by rfl) (by rfl) (by rfl) (by rfl) ?_
              refine wpAny_BinOp ?_
              walk_at "ci"
              refine wpAny_BinOp ?_
              walk_at "nl"
              walk_at "ci"
              refine o_mod (by decide) ?_
              refine o_add ?_
              refine o_iadd ?_
              rw [← rOf_int, show (j : Int) + (1 + ((rOf ns[j] : Nat) : Int)) = ((j + 1 + rOf ns[j] : Nat) : Int) by omega]
              walk_at "st"
              intro h16 t16 D16
              have D17 := (D16.perm (List.Perm.swap _ _ _)).freeze
              walk_at "if"
              refine wpAny_isTrue_Compare1 ?_
              refine Call_ ?_
              walk_at "nb"
              refine PyProof.Rows.callWith_builtin1 ?_
              refine args_cons ?_
              walk_at "nl"
              refine args_nil ?_
              refine o_len (D17.flist (.head _)) (by omega) (fun u18 t18 => ?_)
              refine wpAny_BinOp ?_
              walk_at "nl"
              walk_at "ci"
              refine o_mod (by decide) ?_
              rw [← rOf_int]
              refine lt_int (wpAny_truthy_bool ?_)
              have hwf : decide (w1 < 1) = false := decide_eq_false (by omega)
              rw [hwf] at D17
              by_cases hc : ns.length < j + 1 + rOf ns[j]
              · rw [decide_eq_true (show (rvs.length : Int) < ((rOf ns[j] : Nat) : Int) by omega)]
                simp only [if_true]
                walk_at "as"
                refine List_ ?_
                refine args_cons ?_
                refine k_str ?_
                refine args_cons ?_
                refine List_ ?_
                refine args_nil ?_
                refine mk_list D17 (by decide) (fun bl h19 D19 => ?_)
                have D20 := (D19.perm (List.Perm.swap _ _ _)).freeze
                refine args_nil ?_
                refine mk_list D20 (by show 2 ≤ sizeLine; decide) (fun el h21 D21 => ?_)
                have D22 := (D21.perm (List.Perm.swap _ _ _)).freeze
                walk_at "st"
                intro h23 t23 D23
                refine wpAny_execs_nil ?_
                refine wpAny_execs_nil ?_
                have hent : ∀ tk, IsEnt ((el, LListP [.str (Str.ofString "cut") tk, .ref bl]) :: (bl, LListP []) :: (sl, LListP rvs) :: fz2) (.ref el) .cut := fun tk => ⟨el, tk, .ref bl, rfl, .head _, ⟨bl, [], rfl, .tail _ (.head _), .nil⟩⟩
                exact ⟨0, by omega, .cut hjn hw hr hc (fun p hp => .tail _ (.tail _ (.tail _ (hsub2 _ hp)))) (hent _) (Led.fewer (kvs := dk7 nl dl w1 tw _ _ false rl (.ref el)) (kvs' := [_, _]) D23)⟩
              · rw [decide_eq_false (show ¬ (rvs.length : Int) < ((rOf ns[j] : Nat) : Int) by omega)]
                simp only [Bool.false_eq_true, if_false]
                walk_at "if"
                refine wpAny_isTrue_Compare1 ?_
                refine wpAny_BinOp ?_
                refine wpAny_BinOp ?_
                walk_at "nl"
                walk_at "ci"
                refine floordiv_int (by decide) ?_
                walk_at "ci"
                refine o_mod (by decide) ?_
                walk_at "ci"
                refine eq_int (wpAny_truthy_bool ?_)
                have hrest : IsInts ((sl, LListP rvs) :: fz2) (.ref sl) (restOf ns (j + 1) ns[j]) := ⟨sl, rvs, rfl, .head _, hri⟩
                by_cases hsp : spoilt ns[j] = true
                · rw [show ((ns[j].fdiv 3).fmod 5 == 4) = true from hsp]
                  simp only [if_true]
                  walk_at "as"
                  refine List_ ?_
                  refine args_cons ?_
                  refine k_str ?_
                  refine args_cons ?_
                  refine List_ ?_
                  refine args_cons ?_
                  walk_at "nl"
                  refine args_cons ?_
                  walk_at "nl"
                  refine args_nil ?_
                  refine mk_list D17 (by show 2 ≤ sizeLine; decide) (fun bl h19 D19 => ?_)
                  have D20 := (D19.perm (List.Perm.swap _ _ _)).freeze
                  refine args_nil ?_
                  refine mk_list D20 (by show 2 ≤ sizeLine; decide) (fun el h21 D21 => ?_)
                  have D22 := (D21.perm (List.Perm.swap _ _ _)).freeze
                  walk_at "st"
                  intro h23 t23 D23
                  walk_at "as"
                  refine k_bool ?_
                  walk_at "st"
                  intro h24 t24 D24
                  refine wpAny_execs_nil ?_
                  refine wpAny_execs_nil ?_
                  refine wpAny_execs_nil ?_
                  have hent : ∀ tk, IsEnt ((el, LListP [.str (Str.ofString "spoilt") tk, .ref bl]) :: (bl, LListP [.int ns[j] tv, .ref sl]) :: (sl, LListP rvs) :: fz2) (.ref el) (.spoilt ns[j] (restOf ns (j + 1) ns[j])) := fun tk =>
                    ⟨el, tk, bl, tv, .ref sl, rfl, .head _, .tail _ (.head _), hrest.mono fun p hp => .tail _ (.tail _ hp)⟩
                  exact ⟨0, by omega, .bad hjn hw hr (by omega) hsp (fun p hp => .tail _ (.tail _ (.tail _ (hsub2 _ hp)))) (hent _) (Led.fewer (kvs := dk7 nl dl w1 tw _ _ true rl (.ref el)) (kvs' := [_, _]) D24)⟩
                · have hsp' : spoilt ns[j] = false := by simpa using hsp
                  rw [show ((ns[j].fdiv 3).fmod 5 == 4) = false from hsp']
                  simp only [Bool.false_eq_true, if_false]
                  walk_at "ex"
                  refine wpAny_Call_append (by rfl) (by rfl) (by rfl) (by rfl) ?_
                  walk_at "nl"
                  refine ⟨rl, _, rfl, D17.plainL (by walk_at "mem"), ?_⟩
                  refine Tuple_ ?_
                  refine args_cons ?_
                  walk_at "nl"
                  refine args_cons ?_
                  walk_at "nl"
                  refine args_nil ?_
                  refine mk_tuple D17 (by show 2 ≤ sizeLine; decide) (fun tu h19 D19 => ?_)
                  have D20 := (D19.perm (List.Perm.swap _ _ _)).freeze
                  refine append_ D20 (.there .here) (by simp [sizeLine_eq]; omega) (fun h21 D21 => ?_)
                  refine wpAny_execs_nil ?_
                  refine wpAny_execs_nil ?_
                  refine wpAny_execs_nil ?_
                  have hrun' := Run.snoc hjn hr (by omega) hsp'
                  rw [← hwf] at D21
                  have D22 := Led.fewer (kvs := dk7 nl dl w1 tw ((j + 1 + rOf ns[j] : Nat) : Int) _ (decide (w1 < 1)) rl .none) (kvs' := [_, _]) D21
                  rw [show recs.map (·.1) ++ [Value.ref tu] = (recs ++ [(Value.ref tu, (ns[j], restOf ns (j + 1) ns[j]))]).map (·.1) by simp] at D22
                  rw [show recs.map (·.2) ++ [(ns[j], restOf ns (j + 1) ns[j])] = (recs ++ [(Value.ref tu, (ns[j], restOf ns (j + 1) ns[j]))]).map (·.2) by simp] at hrun'
                  refine ⟨ns.length - (j + 1 + rOf ns[j]) + 1, by omega, .run hrun' (fun h => absurd hw (by omega)) (fun p hp => .tail _ (.tail _ (hsub2 _ hp))) ?_ D22⟩
                  intro x hx
                  rcases List.mem_append.mp hx with hx | hx
                  · exact (hrecs x hx).mono fun p hp => .tail _ (.tail _ hp)
                  · cases List.mem_singleton.mp hx
                    exact ⟨tu, tv, .ref sl, rfl, .head _, hrest.mono fun p hp => .tail _ hp⟩
            · rw [decide_eq_false (show ¬ (j : Int) < (ns.length : Int) by omega)]
              simp only [Bool.false_eq_true, if_false]
              exact ⟨_, .run hr hwz hsub2 hrecs D11, fun _ => by omega⟩
          · rw [decide_eq_false (show ¬ (0 : Int) < w1 from hw)]
            simp only [Bool.false_eq_true, if_false]
            exact ⟨_, .run hr hwz hsub2 hrecs D11, fun h => absurd h hw⟩
end
end

section
/-! ## the rounds are settled by the numbers and the wish -/
inductive Out3
  | done (recs : List Rec)
  | cut
  | bad (j : Nat)
def scanF (ns : List Int) : Nat → Nat → List Rec → Out3
  | 0, _, acc => .done acc
  | f + 1, i, acc =>
    match ns[i]? with
    | none => .done acc
    | some x => if ns.length < i + 1 + rOf x then .cut else if spoilt x = true then .bad i else scanF ns f (i + 1 + rOf x) (acc ++ [(x, restOf ns (i + 1) x)])
theorem Run.scan {ns : List Int} {i j : Nat} {recs : List Rec} (r : Run ns i recs j) : ∀ f, scanF ns (f + recs.length) i [] = scanF ns f j recs := by
  induction r with
  | nil => intro f; rfl
  | @snoc recs j hj _ hle hs ih =>
    intro f
    rw [List.length_append, show f + (recs.length + [(ns[j], restOf ns (j + 1) ns[j])].length) = (f + 1) + recs.length by simp; omega, ih, scanF, List.getElem?_eq_getElem hj]
    simp only
    rw [if_neg (by omega), if_neg (by rw [hs]; simp)]
theorem scan_done {ns : List Int} {i : Nat} {recs : List Rec} (r : Run ns i recs ns.length) : scanF ns (ns.length + 1) i [] = .done recs := by
  have hl := r.len
  have := r.scan (ns.length + 1 - recs.length)
  rw [show ns.length + 1 - recs.length + recs.length = ns.length + 1 by omega] at this
  rw [this, show ns.length + 1 - recs.length = (ns.length - recs.length) + 1 by omega, scanF, List.getElem?_eq_none (Nat.le_refl _)]
theorem scan_cut {ns : List Int} {i j : Nat} {recs : List Rec} (r : Run ns i recs j) (hj : j < ns.length) (hc : ns.length < j + 1 + rOf ns[j]) : scanF ns (ns.length + 1) i [] = .cut := by
  have hl := r.len
  have := r.scan (ns.length + 1 - recs.length)
  rw [show ns.length + 1 - recs.length + recs.length = ns.length + 1 by omega] at this
  rw [this, show ns.length + 1 - recs.length = (ns.length - recs.length) + 1 by omega, scanF, List.getElem?_eq_getElem hj]
  simp only
  rw [if_pos hc]
theorem scan_bad {ns : List Int} {i j : Nat} {recs : List Rec} (r : Run ns i recs j) (hj : j < ns.length) (hle : j + 1 + rOf ns[j] ≤ ns.length) (hs : spoilt ns[j] = true) : scanF ns (ns.length + 1) i [] = .bad j := by
  have hl := r.len
  have := r.scan (ns.length + 1 - recs.length)
  rw [show ns.length + 1 - recs.length + recs.length = ns.length + 1 by omega] at this
  rw [this, show ns.length + 1 - recs.length = (ns.length - recs.length) + 1 by omega, scanF, List.getElem?_eq_getElem hj]
  simp only
  rw [if_neg (by omega), if_pos hs]
def rounds (pick : Int → List Rec → List Int) (ns : List Int) : Nat → Int → Nat → List Ent4
  | 0, _, _ => []
  | f + 1, w, i => if w < 1 then .few [] :: rounds pick ns f (w + 1) i else
    match scanF ns (ns.length + 1) i [] with
    | .done recs => [.few (pick w recs)]
    | .cut => [.cut]
    | .bad j => .spoilt (ns.getD j 0) (restOf ns (j + 1) (ns.getD j 0)) :: rounds pick ns f (w + 1) (j + 1 + rOf (ns.getD j 0))
theorem Trace.rounds {pick : Int → List Rec → List Int} {ns : List Int} {w0 w : Int} {i : Nat} {es : List Ent4} (x : Trace ns w0 es w i) : ∀ f, Mine.rounds pick ns (f + es.length) w0 0 = es ++ Mine.rounds pick ns f w i := by
  induction x with
  | nil => intro f; rfl
  | @none es w i _ hw ih =>
    intro f
    rw [show f + (es ++ [Ent4.few []]).length = (f + 1) + es.length by simp; omega, ih, Mine.rounds, if_pos hw, List.append_assoc]
    rfl
  | @bad es w i j recs hj _ hw hr hle hs ih =>
    intro f
    have hg : ns.getD j 0 = ns[j] := by simp [hj]
    rw [show f + (es ++ [Ent4.spoilt ns[j] (restOf ns (j + 1) ns[j])]).length = (f + 1) + es.length by simp; omega, ih, Mine.rounds, if_neg (by omega), scan_bad hr hj hle hs, List.append_assoc]
    simp only [hg]
    rfl
theorem Fin4.rounds {pick : Int → List Rec → List Int} {ns : List Int} {w0 : Int} {es : List Ent4} (x : Fin4 pick ns w0 es) : ∀ f, Mine.rounds pick ns (f + es.length) w0 0 = es := by
  cases x with
  | @done es w i recs ht hw hr =>
    intro f
    rw [show f + (es ++ [Ent4.few (pick w recs)]).length = (f + 1) + es.length by simp; omega, ht.rounds, Mine.rounds, if_neg (by omega), scan_done hr]
  | @cut es w i j recs hj ht hw hr hc =>
    intro f
    rw [show f + (es ++ [Ent4.cut]).length = (f + 1) + es.length by simp; omega, ht.rounds, Mine.rounds, if_neg (by omega), scan_cut hr hj hc]
theorem Fin4.unique {pick : Int → List Rec → List Int} {ns : List Int} {w0 : Int} {es es' : List Ent4} (x : Fin4 pick ns w0 es) (y : Fin4 pick ns w0 es') : es = es' := by
  have h1 := x.rounds es'.length
  have h2 := y.rounds es.length
  rw [Nat.add_comm] at h1
  exact h1.symm.trans h2
end

section
/-! ## what nsmallest selects is what _law_few selects -/
def ins (r : Rec) : List Rec → List Rec
  | [] => [r]
  | x :: l => if ilt r.2 x.2 = true then r :: x :: l else x :: ins r l
def stabR (recs : List Rec) : List Rec := recs.foldl (fun l r => ins r l) []
theorem stabR_snoc (recs : List Rec) (r : Rec) : stabR (recs ++ [r]) = ins r (stabR recs) := by
  unfold stabR; rw [List.foldl_append]; rfl
theorem ins_mem {r y : Rec} : ∀ {l : List Rec}, y ∈ ins r l → y = r ∨ y ∈ l
  | [], h => .inl (List.mem_singleton.mp h)
  | x :: l, h => by
    rw [ins] at h
    split at h
    · rcases List.mem_cons.mp h with h | h
      · exact .inl h
      · exact .inr h
    · rcases List.mem_cons.mp h with h | h
      · exact .inr (h ▸ .head _)
      · rcases ins_mem h with h | h
        · exact .inl h
        · exact .inr (.tail _ h)
theorem ins_length (r : Rec) : ∀ (l : List Rec), (ins r l).length = l.length + 1
  | [] => rfl
  | x :: l => by
    rw [ins]
    split
    · rfl
    · simp [ins_length r l]
theorem snocRec {α : Type} {P : List α → Prop} (h0 : P []) (hs : ∀ l x, P l → P (l ++ [x])) : ∀ l, P l := by
  intro l
  rw [← List.reverse_reverse l]
  induction l.reverse with
  | nil => exact h0
  | cons x r ih => rw [List.reverse_cons]; exact hs _ _ ih
theorem stabR_mem {y : Rec} : ∀ recs : List Rec, y ∈ stabR recs → y ∈ recs := by
  intro recs
  induction recs using snocRec with
  | h0 => exact fun h => h
  | hs l x ih =>
    intro h
    rw [stabR_snoc] at h
    rcases ins_mem h with rfl | h
    · exact List.mem_append_right _ (.head _)
    · exact List.mem_append_left _ (ih h)
theorem stabR_first {pre : List Rec} {x : Rec} (hp : ∀ y, y ∈ pre → ilt x.2 y.2 = true) : ∀ post : List Rec, (∀ y, y ∈ post → ilt y.2 x.2 = false) → stabR (pre ++ x :: post) = x :: stabR (pre ++ post) := by
  intro post
  induction post using snocRec with
  | h0 =>
    intro _
    rw [show pre ++ [x] = pre ++ [x] from rfl, stabR_snoc, List.append_nil]
    cases q : stabR pre with
    | nil => rfl
    | cons y l =>
      rw [ins, if_pos (hp y (stabR_mem _ (q ▸ List.Mem.head _)))]
  | hs l z ih =>
    intro hq
    rw [show pre ++ x :: (l ++ [z]) = (pre ++ x :: l) ++ [z] by simp, stabR_snoc, ih fun y hy => hq y (List.mem_append_left _ hy), ins, if_neg (by rw [hq z (List.mem_append_right _ (.head _))]; simp), show pre ++ (l ++ [z]) = (pre ++ l) ++ [z] by simp, stabR_snoc]

theorem bestFrom_spec (l : List Rec) : ∀ (f k b : Nat) (hk : k + f = l.length) (hbk : b < k) (hb : b < l.length), (∀ m (hm : m < l.length), m < k → ilt l[m].2 l[b].2 = false ∧ (m < b → ilt l[b].2 l[m].2 = true)) →
    ∃ hb' : bestFrom l f k b < l.length, ∀ m (hm : m < l.length), ilt l[m].2 (l[bestFrom l f k b]'hb').2 = false ∧ (m < bestFrom l f k b → ilt (l[bestFrom l f k b]'hb').2 l[m].2 = true)
  | 0, k, b, hk, hbk, hb, h => ⟨hb, fun m hm => h m hm (by omega)⟩
  | f + 1, k, b, hk, hbk, hb, h => by
    have hkl : k < l.length := by omega
    rw [bestFrom, List.getElem?_eq_getElem hkl, List.getElem?_eq_getElem hb]
    dsimp only
    by_cases z : ilt l[k].2 l[b].2 = true
    · rw [if_pos z]
      refine bestFrom_spec l f (k + 1) k (by omega) (by omega) hkl fun m hm hmk => ?_
      by_cases e : m = k
      · subst e; exact ⟨ilt_irr _, fun q => absurd q (Nat.lt_irrefl _)⟩
      · have hmb := (h m hm (by omega)).1
        have key : ilt l[k].2 l[m].2 = true := by
          cases q : ilt l[k].2 l[m].2 with
          | true => rfl
          | false => have := ilt_trn hmb q; rw [z] at this; cases this
        exact ⟨ilt_asy key, fun _ => key⟩
    · have z' : ilt l[k].2 l[b].2 = false := by simpa using z
      rw [if_neg z]
      refine bestFrom_spec l f (k + 1) b (by omega) (by omega) hb fun m hm hmk => ?_
      by_cases e : m = k
      · subst e; exact ⟨z', fun q => absurd q (by omega)⟩
      · exact h m hm (by omega)
theorem selN_stab : ∀ (n : Nat) (l : List Rec), selN n l = ((stabR l).take n).map (·.1)
  | 0, _ => rfl
  | n + 1, l => by
    by_cases hl : l = []
    · subst hl; rfl
    · have hpos : 0 < l.length := List.length_pos_iff.mpr hl
      obtain ⟨hb, hs⟩ := bestFrom_spec l (l.length - 1) 1 0 (by omega) (by omega) hpos (fun m hm hm1 => by
        have : m = 0 := by omega
        subst this; exact ⟨ilt_irr _, fun q => absurd q (Nat.lt_irrefl _)⟩)
      rw [selN]
      have hb' : bestI l < l.length := hb
      have hs : ∀ m (hm : m < l.length), ilt l[m].2 (l[bestI l]'hb').2 = false ∧ (m < bestI l → ilt (l[bestI l]'hb').2 l[m].2 = true) := hs
      rw [List.getElem?_eq_getElem hb', selN_stab n]
      have e1 : l = l.take (bestI l) ++ l[bestI l] :: l.drop (bestI l + 1) := by
        rw [← List.drop_eq_getElem_cons hb', List.take_append_drop]
      have e2 : l.eraseIdx (bestI l) = l.take (bestI l) ++ l.drop (bestI l + 1) := List.eraseIdx_eq_take_drop_succ ..
      have e3 : stabR l = l[bestI l] :: stabR (l.eraseIdx (bestI l)) := by
        rw [e2]
        conv => lhs; rw [e1]
        refine stabR_first (fun y hy => ?_) _ (fun y hy => ?_)
        · obtain ⟨m, hm, rfl⟩ := List.mem_iff_getElem.mp hy
          rw [List.length_take] at hm
          rw [List.getElem_take]
          exact (hs m (by omega)).2 (by omega)
        · obtain ⟨m, hm, rfl⟩ := List.mem_iff_getElem.mp hy
          rw [List.length_drop] at hm
          rw [List.getElem_drop]
          exact (hs _ (by omega)).1
      rw [e3]
      rfl

def insT (r : Tri) : List Tri → List Tri
  | [] => [r]
  | x :: l => if ilt r.1 x.1 = true then r :: x :: l else x :: insT r l
def pj (t : Tri) : Rec := (t.2.2, t.1)
theorem insT_pj (r : Tri) : ∀ l, (insT r l).map pj = ins (pj r) (l.map pj)
  | [] => rfl
  | x :: l => by
    rw [insT, List.map_cons, ins]
    by_cases z : ilt r.1 x.1 = true
    · rw [if_pos z, if_pos (show ilt (pj r).2 (pj x).2 = true from z)]; rfl
    · rw [if_neg z, if_neg (show ¬ ilt (pj r).2 (pj x).2 = true from z), List.map_cons, insT_pj r l]
theorem insT_perm (r : Tri) : ∀ l, (insT r l).Perm (r :: l)
  | [] => List.Perm.refl _
  | x :: l => by
    rw [insT]
    split
    · exact List.Perm.refl _
    · exact ((insT_perm r l).cons x).trans (List.Perm.swap _ _ _)
theorem insT_sorted {r : Tri} : ∀ {l : List Tri}, l.Pairwise (fun x y => tlt x y = true) → (∀ x, x ∈ l → x.2.1 < r.2.1) → (insT r l).Pairwise (fun x y => tlt x y = true)
  | [], _, _ => List.pairwise_singleton _ _
  | x :: l, hp, ho => by
    rw [List.pairwise_cons] at hp
    rw [insT]
    by_cases z : ilt r.1 x.1 = true
    · rw [if_pos z, List.pairwise_cons]
      have hrx : tlt r x = true := (tlt_eq r x).mpr (.inl z)
      refine ⟨fun y hy => ?_, List.pairwise_cons.mpr hp⟩
      rcases List.mem_cons.mp hy with rfl | hy
      · exact hrx
      · exact tlt_trans hrx (hp.1 y hy)
    · rw [if_neg z, List.pairwise_cons]
      have z' : ilt r.1 x.1 = false := by simpa using z
      refine ⟨fun y hy => ?_, insT_sorted hp.2 fun y hy => ho y (.tail _ hy)⟩
      rcases List.mem_cons.mp ((insT_perm r l).mem_iff.mp hy) with rfl | hy
      · rw [tlt_eq]
        cases q : ilt x.1 y.1 with
        | true => exact .inl rfl
        | false => exact .inr ⟨ilt_total q z', .inl (ho x (.head _))⟩
      · exact hp.1 y hy
def stabT (ts : List Tri) : List Tri := ts.foldl (fun l r => insT r l) []
theorem stabT_snoc (ts : List Tri) (r : Tri) : stabT (ts ++ [r]) = insT r (stabT ts) := by
  unfold stabT; rw [List.foldl_append]; rfl
theorem start_ok (recs : List Rec) : (stabT (numbered recs)).Perm (numbered recs) ∧ (stabT (numbered recs)).Pairwise (fun x y => tlt x y = true) ∧ (stabT (numbered recs)).map pj = stabR recs ∧ ∀ t, t ∈ numbered recs → t.2.1 < (recs.length : Int) := by
  induction recs using snocRec with
  | h0 => exact ⟨List.Perm.refl _, .nil, rfl, fun _ h => nomatch h⟩
  | hs l x ih =>
    obtain ⟨h1, h2, h3, h4⟩ := ih
    rw [numbered_snoc, stabT_snoc, stabR_snoc]
    refine ⟨(insT_perm _ _).trans ((h1.cons _).trans (List.perm_append_comm (l₁ := [_]))), insT_sorted h2 fun y hy => h4 y (h1.mem_iff.mp hy), ?_, fun t ht => ?_⟩
    · rw [insT_pj, h3]; rfl
    · rw [List.length_append]
      rcases List.mem_append.mp ht with ht | ht
      · have := h4 t ht
        simp; omega
      · cases List.mem_singleton.mp ht
        simp
        omega
theorem ins_keep {r : Rec} : ∀ (l : List Rec) (n : Nat), (∀ y, y ∈ l.take n → ilt r.2 y.2 = false) → n ≤ l.length → (ins r l).take n = l.take n
  | _, 0, _, _ => by simp
  | [], n + 1, _, h => by simp at h
  | x :: l, n + 1, hk, hl => by
    rw [ins, if_neg (by rw [hk x (by simp)]; simp)]
    simp only [List.take_succ_cons]
    rw [ins_keep l n (fun y hy => hk y (by simp [hy])) (by simpa using hl)]
theorem ins_repl {r m : Rec} (hm : ilt r.2 m.2 = true) : ∀ (a rest : List Rec), (ins r (a ++ m :: rest)).take (a.length + 1) = ins r a
  | [], rest => by
    show (ins r (m :: rest)).take 1 = [r]
    unfold ins
    rw [if_pos hm]; rfl
  | y :: a, rest => by
    rw [List.cons_append, ins, ins]
    by_cases z : ilt r.2 y.2 = true
    · rw [if_pos z, if_pos z]
      simp only [List.length_cons, List.take_succ_cons]
      rw [List.take_append_of_le_length (Nat.le_refl _), List.take_length]
    · rw [if_neg z, if_neg z]
      simp only [List.length_cons, List.take_succ_cons]
      rw [ins_repl hm a rest]

theorem sorted_unique : ∀ {l l' : List Tri}, l.Pairwise (fun x y => tlt x y = true) → l'.Pairwise (fun x y => tlt x y = true) → l.Perm l' → l = l'
  | [], l', _, _, hp => (List.nil_perm.mp hp).symm ▸ rfl
  | x :: l, [], _, _, hp => absurd hp.length_eq (by simp)
  | x :: l, y :: l', h1, h2, hp => by
    rw [List.pairwise_cons] at h1 h2
    have e : x = y := by
      have hx : x ∈ y :: l' := hp.mem_iff.mp (.head _)
      have hy : y ∈ x :: l := hp.mem_iff.mpr (.head _)
      rcases List.mem_cons.mp hx with e | hx
      · exact e
      · rcases List.mem_cons.mp hy with e | hy
        · exact e.symm
        · have a := h2.1 x hx
          have b := h1.1 y hy
          rw [tlt_asy a] at b; cases b
    subst e
    rw [sorted_unique h1.2 h2.2 hp.cons_inv]

theorem vlt_tr (a b c : Value × Tri) (h1 : vlt b a = false) (h2 : vlt c b = false) : vlt c a = false := tlt_trn h1 h2
theorem vlt_asy (a b : Value × Tri) (h : vlt a b = true) : vlt b a = false := tlt_asy h

theorem HRun.sorted {n : Int} {recs : List Rec} {items : List (Value × Tri)} {order : Int} (r : HRun n recs items order) :
    HeapFrom vlt 0 items ∧ ∃ srt : List Tri, srt.Perm (items.map (·.2)) ∧ srt.Pairwise (fun x y => tlt x y = true) ∧ srt.map pj = (stabR recs).take n.toNat := by
  induction r with
  | @start recs items hn hl hp =>
    obtain ⟨h1, h2, h3, _⟩ := start_ok recs
    refine ⟨hfy_heap0 vlt vlt_tr vlt_asy items, stabT (numbered recs), ?_, h2, ?_⟩
    · refine h1.trans ?_
      rw [← hn]
      exact ((hfy_perm vlt _ items).map _).symm
    · rw [h3, List.take_of_length_le]
      have : (stabR recs).length = recs.length := by
        have := h1.length_eq
        rw [← h3, List.length_map, this]
        simp [numbered]
      omega
  | @keep recs items order x hd k r hlen h0 hk ih =>
    obtain ⟨H, srt, hp, hs, he⟩ := ih
    refine ⟨H, srt, hp, hs, ?_⟩
    obtain ⟨h00, rfl⟩ := List.getElem?_eq_some_iff.mp h0
    have hl : srt.length = n.toNat := by rw [hp.length_eq, List.length_map, hlen]
    have hle : n.toNat ≤ (stabR recs).length := by
      have := congrArg List.length he
      rw [List.length_map, List.length_take] at this
      omega
    rw [stabR_snoc, ins_keep _ _ ?_ hle, he]
    intro y hy
    rw [← he] at hy
    obtain ⟨t, ht, rfl⟩ := List.mem_map.mp hy
    obtain ⟨v, hv, rfl⟩ := List.mem_map.mp (hp.mem_iff.mp ht)
    obtain ⟨c, hc, rfl⟩ := List.mem_iff_getElem.mp hv
    have hroot := heap_root vlt vlt_tr vlt_asy H h00 c hc
    have h2 : ilt items[0].2.1 items[c].2.1 = false := by
      cases q : ilt items[0].2.1 items[c].2.1 with
      | false => rfl
      | true =>
        have : tlt items[0].2 items[c].2 = true := (tlt_eq _ _).mpr (.inl q)
        rw [show tlt items[0].2 items[c].2 = false from hroot] at this; cases this
    exact ilt_trn h2 hk
  | @repl recs items order x v hd k r hlen h0 hk ih =>
    obtain ⟨H, srt, hp, hs, he⟩ := ih
    refine ⟨repl_heap vlt vlt_tr vlt_asy H _, ?_⟩
    have hord := r.orders
    match items, h0, H, hp, hlen, hord with
    | x0 :: tl, h0, H, hp, hlen, hord =>
      cases h0
      have hne : srt ≠ [] := fun e => by rw [e] at hp; exact absurd hp.length_eq (by simp)
      have hsplit := List.dropLast_concat_getLast hne
      have hmem : x.2 ∈ srt := hp.mem_iff.mpr (by simp)
      have hm : srt.getLast hne = x.2 := by
        rw [← hsplit] at hmem hs
        rcases List.mem_append.mp hmem with h | h
        · have h1 := (List.pairwise_append.mp hs).2.2 _ h _ (.head _)
          have h2 : srt.getLast hne ∈ (x :: tl).map (·.2) := hp.mem_iff.mp (List.getLast_mem hne)
          obtain ⟨y, hy, ey⟩ := List.mem_map.mp h2
          obtain ⟨c, hc, rfl⟩ := List.mem_iff_getElem.mp hy
          have hroot := heap_root vlt vlt_tr vlt_asy H (by simp) c hc
          have : tlt x.2 (srt.getLast hne) = false := by rw [← ey]; exact hroot
          rw [h1] at this; cases this
        · exact (List.mem_singleton.mp h).symm
      have hperm : srt.dropLast.Perm (tl.map (·.2)) := by
        have h1 : (srt.dropLast ++ [x.2]).Perm (x.2 :: tl.map (·.2)) := by rw [← hm, hsplit]; rw [hm]; exact hp
        exact ((List.perm_append_comm (l₁ := [x.2])).trans h1).cons_inv
      have hsd : srt.dropLast.Pairwise (fun x y => tlt x y = true) := by rw [← hsplit] at hs; exact (List.pairwise_append.mp hs).1
      refine ⟨insT (k, order, hd) srt.dropLast, ?_, ?_, ?_⟩
      · refine (insT_perm _ _).trans ?_
        refine (hperm.cons _).trans ?_
        exact ((siftup_perm vlt 0 ((x :: tl).set 0 (v, k, order, hd))).map (·.2)).symm
      · refine insT_sorted hsd fun y hy => ?_
        obtain ⟨z, hz, rfl⟩ := List.mem_map.mp (hperm.mem_iff.mp hy)
        exact hord.1 z (.tail _ hz)
      · have hl : srt.length = n.toNat := by rw [hp.length_eq, List.length_map, hlen]
        have hle : n.toNat ≤ (stabR recs).length := by
          have := congrArg List.length he
          rw [List.length_map, List.length_take] at this
          omega
        have e1 : stabR recs = srt.dropLast.map pj ++ pj x.2 :: (stabR recs).drop n.toNat := by
          have h1 : srt.map pj = srt.dropLast.map pj ++ [pj x.2] := by
            conv => lhs; rw [← hsplit]
            rw [List.map_append, hm]; rfl
          have h2 := List.take_append_drop n.toNat (stabR recs)
          rw [← he, h1, List.append_assoc] at h2
          exact h2.symm
        rw [insT_pj, stabR_snoc]
        have hr := ins_repl (r := (hd, k)) (m := pj x.2) hk (srt.dropLast.map pj) ((stabR recs).drop n.toNat)
        rw [← e1] at hr
        rw [show n.toNat = (srt.dropLast.map pj).length + 1 by
          rw [List.length_map, List.length_dropLast]
          have : 0 < srt.length := List.length_pos_iff.mpr hne
          omega]
        exact hr.symm

theorem pick_ok (n : Int) (recs : List Rec) (heads : List Int) (_ : 0 < n) (h : recs = [] ∧ heads = [] ∨ Sel n recs heads) : heads = pickS n recs := by
  rcases h with ⟨rfl, rfl⟩ | ⟨items, order, items', H, hp, hpw, rfl⟩
  · show [] = selN n.toNat []
    cases n.toNat <;> rfl
  · obtain ⟨_, srt, h1, h2, h3⟩ := H.sorted
    have e : items'.map (·.2) = srt := sorted_unique (by rw [List.pairwise_map]; exact hpw) h2 ((hp.map _).trans h1.symm)
    show _ = selN n.toNat recs
    rw [selN_stab, ← h3, ← e, List.map_map, List.map_map]
    rfl
end

section
/-! ## law -/
section
variable {prog : Program} {w : World} {A : Around} {E : Value → Shared → Prop} {B h : Heap} {live live' rest fz : List Ent} {g : Array GenState} {d : Drawn} {t : Nat} {os : OsState} {mg mb : Str → Option Value} {fa : Nat → Addr} {f0 : Ent}

theorem sum_any {Q : Value → Shared → Prop} {l : Addr} {vs : List Value} {ns : List Int} (hh : A.handled = none) (hl : h.IsList l vs.toArray) (hi : IntsAre vs ns) (D : Led B h live fz)
    (hq : ∀ X tk h' t', Led B h' live fz → Q (.int X tk) ⟨h', g, d, t', os⟩) : wpAny (model prog w) A (call (.builtin "sum") [.ref l]) Q E ⟨h, g, d, t, os⟩ := by
  obtain ⟨xs, e⟩ := hi.allInts.items
  rw [e] at hl
  exact sum_intListG (s := ⟨h, g, d, t, os⟩) hh hl fun h' tk t' hk => hq _ _ h' tk (D.grow hk)

theorem eqAt_all {s : Shared} {l b : Addr} {xs ys : List Value} (hl : s.heap.IsList l xs.toArray) (hb : s.heap.IsList b ys.toArray) (hlen : xs.length = ys.length) (hu : A.units < cLine)
    (hit : ∀ j (h1 : j < xs.length) (h2 : j < ys.length), EqAt A.in1 s xs[j] ys[j] true) : EqAt A s (.ref l) (.ref b) true := by
  by_cases z : l = b
  · subst z
    exact EqAt.same _
  · refine EqAt.of_refs z ?_
    have h := RcAt.lists (A := A) (e := fun _ => true) hl hb (by simpa using hlen) hu (fun j h1 h2 => by
      have h1' : j < xs.length := by simpa using h1
      have h2' : j < ys.length := by simpa using h2
      have := hit j h1' h2'
      simpa using this)
    rw [show ((List.range xs.toArray.size).all fun _ => true) = true by simp] at h
    exact h
theorem eqAt_ints_true {v u : Value} {x : List Int} {fz : List Ent} (D : Led B h live fz) (hx : IsInts fz v x) (hy : IsInts fz u x) (hu : A.units < cLine) : EqAt A ⟨h, g, d, t, os⟩ v u true := by
  have := eqAt_ints (A := A) (g := g) (d := d) (t := t) (os := os) D hx hy hu
  simpa using this
theorem pair2 {s : Shared} {a1 a2 b1 b2 : Value} (h1 : EqAt A s a1 b1 true) (h2 : EqAt A s a2 b2 true) : ∀ j (h1 : j < [a1, a2].length) (h2 : j < [b1, b2].length), EqAt A s [a1, a2][j] [b1, b2][j] true := by
  intro j hj hj'
  match j, hj with
  | 0, _ => exact h1
  | 1, _ => exact h2
theorem eqAt_str {s : Shared} {x : Str} {t u : Tok} : EqAt A s (.str x t) (.str x u) true := by
  have := EqAt.str_str (A := A) (s := s) x t x u
  simpa using this
theorem eqAt_ent {v u : Value} {e : Ent4} (D : Led B h live fz) (hx : IsEnt fz v e) (hy : IsEnt fz u e) (hu : A.units + 3 < cLine) : EqAt A ⟨h, g, d, t, os⟩ v u true := by
  cases e with
  | few heads =>
    refine cps fun PP kk => ?_
    obtain ⟨a, ta, b, rfl, ma, ia⟩ := hx
    obtain ⟨a', ta', b', rfl, ma', ia'⟩ := hy
    refine kk ?_
    clear kk PP
    exact eqAt_all (s := ⟨h, g, d, t, os⟩) (D.flist ma) (D.flist ma') rfl (by omega) (pair2 eqAt_str (eqAt_ints_true D ia ia' (by show A.units + 1 < cLine; omega)))
  | cut =>
    refine cps fun PP kk => ?_
    obtain ⟨a, ta, b, rfl, ma, ia⟩ := hx
    obtain ⟨a', ta', b', rfl, ma', ia'⟩ := hy
    refine kk ?_
    clear kk PP
    exact eqAt_all (s := ⟨h, g, d, t, os⟩) (D.flist ma) (D.flist ma') rfl (by omega) (pair2 eqAt_str (eqAt_ints_true D ia ia' (by show A.units + 1 < cLine; omega)))
  | left =>
    refine cps fun PP kk => ?_
    obtain ⟨a, ta, b, rfl, ma, ia⟩ := hx
    obtain ⟨a', ta', b', rfl, ma', ia'⟩ := hy
    refine kk ?_
    clear kk PP
    exact eqAt_all (s := ⟨h, g, d, t, os⟩) (D.flist ma) (D.flist ma') rfl (by omega) (pair2 eqAt_str (eqAt_ints_true D ia ia' (by show A.units + 1 < cLine; omega)))
  | spoilt x rest =>
    refine cps fun PP kk => ?_
    obtain ⟨a, ta, b, tx, rv, rfl, ma, mb, ia⟩ := hx
    obtain ⟨a', ta', b', tx', rv', rfl, ma', mb', ia'⟩ := hy
    refine kk ?_
    clear kk PP
    refine eqAt_all (s := ⟨h, g, d, t, os⟩) (D.flist ma) (D.flist ma') rfl (by omega) (pair2 eqAt_str ?_)
    refine eqAt_all (s := ⟨h, g, d, t, os⟩) (D.flist mb) (D.flist mb') rfl (by show A.units + 1 < cLine; omega) (pair2 ?_ (eqAt_ints_true D ia ia' (by show A.units + 1 + 1 < cLine; omega)))
    have := eqAt_int (A := A.in1.in1) (s := ⟨h, g, d, t, os⟩) (a := x) (b := x) (t := tx) (u := tx')
    simpa using this
theorem ents_get {fz : List Ent} {vs : List Value} {es : List Ent4} (x : AreEnts fz vs es) : ∀ j (h1 : j < vs.length) (h2 : j < es.length), IsEnt fz vs[j] es[j] := by
  induction x with
  | nil => intro j h1; exact absurd h1 (Nat.not_lt_zero _)
  | cons h _ ih =>
    intro j h1 h2
    match j with
    | 0 => exact h
    | j + 1 => exact ih j (by simpa using h1) (by simpa using h2)

theorem law_body {Q : Flow → Shared → Prop} {sl L P c0 f : Addr} {cd : Value} {svs : List Value} {script : List Int} (S : Stat B mg mb fa) (TC : ToldCode B mg fa c0 P) (hls : B.IsList sl svs.toArray) (hsv : IntsAre svs script) (hlen : script.length ≤ 63)
    (D : Led B h [(L, FrameP [(Str.ofString "script", .ref sl)]), (P, TabP)] []) (hh : A.handled = none) (hd : A.depth + 12 < recursionLimit) (hu : A.units + 140 < cLine) (hfr : A.frames = some [envAt 10 (Str.ofString "law") [] L f cd])
    (hq : ∀ fz' h' t', (P, GrownP) ∈ fz' → Led B h' [] fz' → Q (.ret (.bool true)) ⟨h', g, d, t', os⟩) :
    wpAny (model prog w) A (execs (bodyOf (stmtAt 10)) (envAt 10 (Str.ofString "law") [] L f cd)) Q E ⟨h, g, d, t, os⟩ := by
  have hsl := IntsAre.len hsv
  have isl : ∀ {h : Heap}, (∀ b o, B.get? b = some o → h.get? b = some o) → h.IsList sl svs.toArray := fun hk => let ⟨o, ho, r⟩ := hls; ⟨o, hk _ _ ho, r⟩
  walk_at "as"
  refine wpAny_BinOp ?_
  refine List_ ?_
  iterate 11
    refine args_cons ?_
    walk_at "ci"
  refine args_nil ?_
  refine mk_list D (by show 11 ≤ sizeLine; decide) (fun l0 h1 D1 => ?_)
  walk_at "nl"
  refine list_add D1 (D1.list (l := l0) (by walk_at "mem")) (isl D1.keep) (by simp; omega) (fun nl h2 D2 => ?_)
  walk_at "st"
  intro h3 t3 D3
  have D4 := (D3.perm (List.Perm.swap _ _ _)).freeze.drop2
  walk_at "as"
  refine wpAny_BinOp ?_
  refine wpAny_BinOp ?_
  refine Call_ ?_
  walk_at "nb"
  refine PyProof.Rows.callWith_builtin1 ?_
  refine args_cons ?_
  walk_at "nl"
  refine args_nil ?_
  refine sum_any hh (isl D4.keep) hsv D4 (fun X tk h5 t5 D5 => ?_)
  walk_at "ci"
  refine o_mod (by decide) ?_
  walk_at "ci"
  refine o_sub ?_
  have hx1 := Int.fmod_nonneg_of_pos X (show (0 : Int) < 4 by decide)
  have hx2 := Int.fmod_lt_of_pos X (show (0 : Int) < 4 by decide)
  walk_at "st"
  intro h6 t6 D6
  have hints : ∀ (t0 t1 t2 t3 t4 t5 t6 t7 t8 t9 t10 : Tok), IntsAre ([Value.int 4 t0, .int 9 t1, .int 3 t2, .int 7 t3, .int 20 t4, .int 12 t5, .int 1 t6, .int 6 t7, .int 16 t8, .int 6 t9, .int 0 t10] ++ svs) (4 :: 9 :: 3 :: 7 :: 20 :: 12 :: ([1, 6, 16, 6, 0] ++ script)) :=
    fun t0 t1 t2 t3 t4 t5 t6 t7 t8 t9 t10 => .cons _ _ (.cons _ _ (.cons _ _ (.cons _ _ (.cons _ _ (.cons _ _ (.cons _ _ (.cons _ _ (.cons _ _ (.cons _ _ (.cons _ _ hsv))))))))))
  refine wpAny_execs_cons ?_
  refine wpAny_Return_some ?_
  refine wpAny_Compare1 ?_
  refine Call_ ?_
  walk_at "nf"
  refine callWith_fn (S.fn 7 _ (by walk_at "mem")).2 ?_
  refine args_cons ?_
  walk_at "nl"
  refine args_cons ?_
  walk_at "nl"
  refine args_nil ?_
  refine ⟨D6.keep, ?_⟩
  refine told_call (R := [(L, FrameP [(Str.ofString "script", .ref sl), (Str.ofString "numbers", .ref nl), (sWish, .int (X.fmod 4 - 1) _)])]) pickS S TC pick_ok rfl (by simp; omega) (by omega) (by omega) (.head _) (hints _ _ _ _ _ _ _ _ _ _ _) (D6.perm (List.Perm.swap _ _ _)) hh (by omega) (by omega) hfr ?_ ?_
  · intro env he
    cases List.mem_singleton.mp he
    exact ⟨show (scopeOf (stmtAt 10)).kind ≠ .module by decide +kernel, L, _, rfl, .head _⟩
  intro es vs tl fz7 h7 t7 hsub7 hgr hfin hents htl D7
  refine Call_ ?_
  walk_at "nf"
  refine callWith_fn (S.fn 9 _ (by walk_at "mem")).2 ?_
  refine args_cons ?_
  walk_at "nl"
  refine args_cons ?_
  walk_at "nl"
  refine args_nil ?_
  refine ⟨D7.keep, ?_⟩
  refine due_call (ns := 4 :: 9 :: 3 :: 7 :: 20 :: 12 :: ([1, 6, 16, 6, 0] ++ script)) S (by simp; omega) (by omega) (by omega) (hsub7 _ (.head _)) (hints _ _ _ _ _ _ _ _ _ _ _) D7 hh (by omega) (by omega) ?_
  intro es' vs' dl fz8 h8 t8 hsub8 hfin' hents' hdl D8
  obtain rfl := hfin.unique hfin'
  show wpAny _ _ (richCompare .Eq (.ref tl) (.ref dl)) _ _ _
  have hl1 := hents.len
  have hl2 := hents'.len
  · have hrc := RcAt.lists (A := A) (s := ⟨h8, g, d, t8, os⟩) (e := fun _ => true) (D8.flist (hsub8 _ htl)) (D8.flist hdl) (by simp; omega) (by omega) (fun j h1 h2 => by
      have h1' : j < vs.length := by simpa using h1
      have h2' : j < vs'.length := by simpa using h2
      have := eqAt_ent (A := A.in1) (g := g) (d := d) (t := t8) (os := os) D8 ((ents_get hents j h1' (by omega)).mono hsub8) (ents_get hents' j h2' (by omega)) (by show A.units + 1 + 3 < cLine; omega)
      simpa using this)
    rw [show ((List.range vs.toArray.size).all fun _ => true) = true by simp] at hrc
    exact hrc _ _ _ _ (hq fz8 h8 t8 (hsub8 _ hgr) D8.drop)
end
end

section
set_option maxRecDepth 100000
/-! ## what stands at the top, out of the written part -/
def faN : Nat → Addr
  | 1 => 21
  | 2 => 28
  | 3 => 35
  | 4 => 42
  | 5 => 48
  | 7 => 55
  | 8 => 62
  | 9 => 69
  | _ => 0
theorem isFn_of {K : Frag} {B : Heap} (X : K.In B) {f c : Addr} {nm : Str} {i : Nat} {dV kV doc pm ct : Value} {an : Option Addr} {o oc : Obj} {vs : Array Value} {tq : Tok}
    (e : K.lookup f = some o) (hd : o.data = .func (fdOf i nm dV kV doc pm an (.ref c) ct)) (ec : K.lookup c = some oc) (hdc : oc.data = .fields vs) (hv : vs[1]? = some (.str nm tq)) : IsFn B f nm i dV :=
  ⟨o, kV, doc, pm, an, .ref c, ct, X _ _ e, hd, c, oc, vs, tq, rfl, X _ _ ec, hdc, hv⟩
theorem stat_of {K : Frag} {B : Heap} {mg mb : Str → Option Value} {p : Program} {loose : List Str} {mean : ExcName → Option Value} (X : K.In B) (T : Top p loose mean mg mb B)
    (hbn : ∀ q, q ∈ biList → nsIn K mainGlobals q.1 = some none) (hbb : ∀ x v, (x, v) ∈ biList → x ≠ "__name__" ∧ bootBuiltins x = some v)
    (hfn : ∀ q, q ∈ fnList → nsIn K mainGlobals q.2 = some (some (.ref (faN q.1))) ∧ IsFn B (faN q.1) q.2 q.1 .none)
    (hns : nsIn K mainGlobals (Str.ofString "nsmallest") = some (some (.ref 48))) (hnf : IsFn B 48 (Str.ofString "nsmallest") 5 (.ref 43)) (hdt : ∃ o n, B.get? 43 = some o ∧ o.data = .seq #[.none] n) (hlow : sysModules < B.objs.size) : Stat B mg mb faN :=
  ⟨T.g, T.b, T.nolimit, fun x v hm => ⟨mg_none_of X T.g (hbn (x, v) hm), (T.builtins x (hbb x v hm).1).trans (hbb x v hm).2⟩, fun i x hm => ⟨mg_of X T.g (hfn (i, x) hm).1, (hfn (i, x) hm).2⟩, ⟨mg_of X T.g hns, 43, hnf, hdt⟩, hlow⟩
theorem told_of {K : Frag} {B : Heap} {mg mb : Str → Option Value} {p : Program} {loose : List Str} {mean : ExcName → Option Value} (X : K.In B) (T : Top p loose mean mg mb B) (hd : CodeHd B 54 50) (hP : B.get? 50 = none)
    (hf : ∃ o kV doc pm an ct, B.get? 55 = some o ∧ o.data = .func (fdOf 7 (Str.ofString "_law_told") .none kV doc pm an (.ref 54) ct) ∧ B.CodeRec (.ref 54) (Str.ofString "_law_told")) : ToldCode B mg faN 54 50 := by
  refine ⟨hf, hd, ?_, ?_⟩
  · obtain ⟨bm, ob, b1, b2, b3, b4, b5, b6⟩ := T.bmain
    refine ⟨bm, ob, b1, b2, fun q => ?_, fun q => ?_, b3, b4, b5, b6⟩
    · obtain ⟨o, es, ep, e, hd', _⟩ := T.g
      rw [q, e] at b3; cases b3; rw [hd'] at b6; cases b6
    · rw [q, hP] at b3; cases b3
  · intro q
    obtain ⟨o, es, ep, e, _⟩ := T.g
    rw [q, hP] at e; cases e
theorem led_of {B h : Heap} {L sl : Addr} (F : Fr B L h (fun x => [(Str.ofString "script", Value.ref sl)].reverse.lookup x)) (N : News B L h [(50, tabObj #[])]) : Led B h [(L, FrameP [(Str.ofString "script", .ref sl)]), (50, TabP)] [] := by
  have n := N _ (.head _)
  obtain ⟨o, ho, hp⟩ := FrameP.of_ns (kvs := [(Str.ofString "script", Value.ref sl)]) F.ns fun y v e => by
    rw [aget_lookup] at e; exact e
  refine ⟨F.keep, fun p hp' => ?_, (fun p hp' => by cases hp'), ?_, (fun p hp' => by cases hp')⟩
  · rcases List.mem_cons.mp hp' with rfl | hp'
    · exact ⟨⟨o, ho, hp⟩, Heap.get?_none_of_le F.above⟩
    · cases List.mem_singleton.mp hp'
      exact ⟨⟨_, n.1, rfl⟩, n.2.2⟩
  · simp
    exact fun q => n.2.1 q.symm
end
end Mine

theorem Mine.bootAll : ∀ x v, (x, v) ∈ Mine.biList → x ≠ "__name__" ∧ bootBuiltins x = some v := by
  intro x v hm
  have h : ∀ p, p ∈ Mine.biList → p.1 ≠ "__name__" ∧ bootBuiltins p.1 = some p.2 := by
    unfold Mine.biList
    refine List.forall_mem_cons.mpr ⟨⟨by decide +kernel, Boot.«len»⟩, ?_⟩
    refine List.forall_mem_cons.mpr ⟨⟨by decide +kernel, Boot.«range»⟩, ?_⟩
    refine List.forall_mem_cons.mpr ⟨⟨by decide +kernel, Boot.«reversed»⟩, ?_⟩
    refine List.forall_mem_cons.mpr ⟨⟨by decide +kernel, Boot.«iter»⟩, ?_⟩
    refine List.forall_mem_cons.mpr ⟨⟨by decide +kernel, Boot.«object»⟩, ?_⟩
    refine List.forall_mem_cons.mpr ⟨⟨by decide +kernel, Boot.«min»⟩, ?_⟩
    refine List.forall_mem_cons.mpr ⟨⟨by decide +kernel, Boot.«TypeError»⟩, ?_⟩
    refine List.forall_mem_cons.mpr ⟨⟨by decide +kernel, Boot.«AttributeError»⟩, ?_⟩
    refine List.forall_mem_cons.mpr ⟨⟨by decide +kernel, Boot.«zip»⟩, ?_⟩
    refine List.forall_mem_cons.mpr ⟨⟨by decide +kernel, Boot.«next»⟩, ?_⟩
    refine List.forall_mem_cons.mpr ⟨⟨by decide +kernel, Boot.«ValueError»⟩, ?_⟩
    refine List.forall_mem_cons.mpr ⟨⟨by decide +kernel, Boot.«list»⟩, ?_⟩
    refine List.forall_mem_cons.mpr ⟨⟨by decide +kernel, Boot.«StopIteration»⟩, ?_⟩
    refine List.forall_mem_cons.mpr ⟨⟨by decide +kernel, Boot.«sum»⟩, ?_⟩
    exact fun _ h => nomatch h
  exact h (x, v) hm

theorem Mine.law_body2 {prog : Program} {w : World} {A : Around} {E : Value → Shared → Prop} {B h : Heap} {g : Array GenState} {d : Drawn} {t : Nat} {os : OsState} {mg mb : Str → Option Value} {fa : Nat → Addr} {Q : Flow → Shared → Prop} {sl L P c0 f : Addr} {cd : Value} {svs : List Value} {script : List Int} {body : List Stmt} {env : Env} (hb : body = Mine.bodyOf (Mine.stmtAt 10)) (he : env = Mine.envAt 10 (Str.ofString "law") [] L f cd) (S : Mine.Stat B mg mb fa) (TC : Mine.ToldCode B mg fa c0 P) (hls : B.IsList sl svs.toArray) (hsv : IntsAre svs script) (hlen : script.length ≤ 63)
    (D : Mine.Led B h [(L, Mine.FrameP [(Str.ofString "script", .ref sl)]), (P, Mine.TabP)] []) (hh : A.handled = none) (hd : A.depth + 12 < recursionLimit) (hu : A.units + 140 < cLine) (hfr : A.frames = some [env])
    (hq : ∀ fz' h' t', (P, Mine.GrownP) ∈ fz' → Mine.Led B h' [] fz' → Q (.ret (.bool true)) ⟨h', g, d, t', os⟩) :
    wpAny (model prog w) A (execs body env) Q E ⟨h, g, d, t, os⟩ := by
  subst hb
  subst he
  exact @Mine.law_body prog w A E B h g d t os mg mb fa Q sl L P c0 f cd svs script S TC hls hsv hlen D hh hd hu hfr hq

set_option maxRecDepth 100000 in
set_option maxHeartbeats 8000000 in
theorem PySem.Challenge.cw_dv0017_01_holds : PySem.Challenge.rw_dv0017_01.Holds := by
  w_on
  o_law
  k_head
  (case hw => w_witness2)
  k_fill
  intro w s₀ s₁ mg mb G Y fa o pm cd doc dV kV ho hd hcd hD hmg hg args vals as hpre hlay hrd hwl hlo
  have KX := km_in_of Y
  km_tabs Y
  have X := (Ground.X G).1
  have V := (Ground.X G).2
  refine Ground.open G ?_
  intro T B D TE TW
  try (refine guard_noD D (by decide +kernel) ?_; clear D)
  km_lay T hmg ho hd cd
  clear hmg
  wrow_args hpre hlay hrd hwl hlo
  refine enter_call ?_
  w_top on
  kn_posts
  w_call any ho hd hcd hD T F
  clear hd
  kn_ghosts F T
  rename Frag.In _ (ghostOf _ _) => XG
  rename Top _ _ _ _ _ (ghostOf _ _) => TG
  rename Fr _ _ _ _ => FG
  rename News _ _ _ _ => NG
  rename IntsAre _ _ => HI
  rename ¬ _ < _ => HC
  obtain ⟨hp, gg, dd, tt, oo⟩ := s₁
  have hP : (ghostOf hp [(54, 50)]).get? 50 = none := (NG _ (.head _)).2.2
  have S : Mine.Stat (ghostOf hp [(54, 50)]) mg mb Mine.faN := by
    refine Mine.stat_of XG TG ?_ Mine.bootAll ?_ (by kernel_rfl) ?_ ?_ ?_
    · unfold Mine.biList
      iterate 14 refine List.forall_mem_cons.mpr ⟨by kernel_rfl, ?_⟩
      exact fun _ h => nomatch h
    · unfold Mine.fnList
      refine List.forall_mem_cons.mpr ⟨⟨by kernel_rfl, Mine.isFn_of XG (f := 21) (c := 20) rfl rfl rfl rfl rfl⟩, ?_⟩
      refine List.forall_mem_cons.mpr ⟨⟨by kernel_rfl, Mine.isFn_of XG (f := 28) (c := 27) rfl rfl rfl rfl rfl⟩, ?_⟩
      refine List.forall_mem_cons.mpr ⟨⟨by kernel_rfl, Mine.isFn_of XG (f := 35) (c := 34) rfl rfl rfl rfl rfl⟩, ?_⟩
      refine List.forall_mem_cons.mpr ⟨⟨by kernel_rfl, Mine.isFn_of XG (f := 42) (c := 41) rfl rfl rfl rfl rfl⟩, ?_⟩
      refine List.forall_mem_cons.mpr ⟨⟨by kernel_rfl, Mine.isFn_of XG (f := 55) (c := 54) rfl rfl rfl rfl rfl⟩, ?_⟩
      refine List.forall_mem_cons.mpr ⟨⟨by kernel_rfl, Mine.isFn_of XG (f := 62) (c := 61) rfl rfl rfl rfl rfl⟩, ?_⟩
      refine List.forall_mem_cons.mpr ⟨⟨by kernel_rfl, Mine.isFn_of XG (f := 69) (c := 68) rfl rfl rfl rfl rfl⟩, ?_⟩
      exact fun _ h => nomatch h
    · exact Mine.isFn_of XG (c := 47) rfl rfl rfl rfl rfl
    · exact ⟨_, _, XG 43 _ rfl, rfl⟩
    · exact Nat.lt_of_le_of_lt (by decide +kernel) (Heap.lt_size (XG 76 _ rfl))
  have TC : Mine.ToldCode (ghostOf hp [(54, 50)]) mg Mine.faN 54 50 := by
    refine Mine.told_of XG TG codeHd hP ?_
    exact ⟨_, _, _, _, _, _, XG 55 _ rfl, rfl, 54, _, _, _, rfl, XG 54 _ rfl, rfl, rfl⟩
  have hD := Mine.led_of FG NG
  with_reducible refine Mine.law_body2 (f := fa) (cd := cd) ?zb ?ze S TC lifted HI ?zl hD ?zh ?zd ?zu ?zf ?zq
  case zb => kernel_rfl
  case ze => kernel_rfl
  case zl => omega
  case zh => rfl
  case zd => exact (show 1 + claimMargin + 1 + 12 < recursionLimit by decide +kernel)
  case zu => exact (show 4 + 3 + 140 < cLine by decide +kernel)
  case zf => rfl
  intro fz' h' t' hgr D'
  obtain ⟨og, hog, ps, rfl⟩ := D'.rf hgr
  refine ⟨⟨.inl ⟨_, _, [], rfl, (fun _ => rfl), ReadsW.bool true, ?_, fun _ => ⟨List.nodup_nil, fun _ hm => by cases hm⟩⟩, D'.keep, rfl, hg⟩, ⟨ps, hog⟩, trivial⟩
  first | rfl | wrow_post
