import PyProof.Rows.All
import Wide.All
import OpenK.AllK
import Wide.FinOn
import PySem.Challenge.RW_sl0019_01
set_option Elab.async false
set_option maxRecDepth 100000
noncomputable section
open PySem PySem.W PyProof.Rows
namespace Mine

/-- values without their tokens -/
inductive V where
  | none
  | bool (b : Bool)
  | int (i : Int)
  | str (x : Str)
  | ref (a : Addr)
  | val (v : Value)

inductive Is : V → Value → Prop where
  | none : Is .none .none
  | bool (b : Bool) : Is (.bool b) (.bool b)
  | int (i : Int) (t : Tok) : Is (.int i) (.int i t)
  | str (x : Str) (t : Tok) : Is (.str x) (.str x t)
  | ref (a : Addr) : Is (.ref a) (.ref a)
  | val (v : Value) : Is (.val v) v

inductive Are : List V → List Value → Prop where
  | nil : Are [] []
  | cons {x : V} {v : Value} {xs : List V} {vs : List Value} : Is x v → Are xs vs → Are (x :: xs) (v :: vs)

theorem Are.length {xs : List V} {vs : List Value} (h : Are xs vs) : xs.length = vs.length := by
  induction h with
  | nil => rfl
  | cons _ _ ih => simp [ih]
theorem Are.append {xs ys : List V} {vs us : List Value} (h : Are xs vs) (g : Are ys us) : Are (xs ++ ys) (vs ++ us) := by
  induction h with
  | nil => exact g
  | cons a _ ih => exact .cons a ih
theorem Are.get {xs : List V} {vs : List Value} (h : Are xs vs) : ∀ {i : Nat} {x : V}, xs[i]? = some x → ∃ v, vs[i]? = some v ∧ Is x v := by
  induction h with
  | nil => intro i x e; cases e
  | @cons x v xs vs a _ ih =>
    intro i y e
    cases i with
    | zero => cases e; exact ⟨v, rfl, a⟩
    | succ i => exact ih (i := i) (by simpa using e)
theorem Are.set {xs : List V} {vs : List Value} (h : Are xs vs) {x : V} {v : Value} (e : Is x v) : ∀ i : Nat, Are (xs.set i x) (vs.set i v) := by
  induction h with
  | nil => intro i; exact .nil
  | cons a b ih =>
    intro i
    cases i with
    | zero => exact .cons e b
    | succ i => exact .cons a (ih i)
theorem Are.take {xs : List V} {vs : List Value} (h : Are xs vs) : ∀ i : Nat, Are (xs.take i) (vs.take i) := by
  induction h with
  | nil => intro i; simp; exact .nil
  | cons a b ih =>
    intro i
    cases i with
    | zero => exact .nil
    | succ i => exact .cons a (ih i)
theorem Are.drop {xs : List V} {vs : List Value} (h : Are xs vs) : ∀ i : Nat, Are (xs.drop i) (vs.drop i) := by
  induction h with
  | nil => intro i; simp; exact .nil
  | cons a b ih =>
    intro i
    cases i with
    | zero => exact .cons a b
    | succ i => exact ih i
theorem Are.reverse {xs : List V} {vs : List Value} (h : Are xs vs) : Are xs.reverse vs.reverse := by
  induction h with
  | nil => exact .nil
  | cons a b ih => rw [List.reverse_cons, List.reverse_cons]; exact ih.append (.cons a .nil)

inductive O where
  | list (xs : List V)
  | tup (xs : List V)
  | cell (v : Option V)
  | rng (a b c : Int)
  | raw (ob : Obj)

inductive ObIs : O → Obj → Prop where
  | list {xs : List V} {vs : List Value} (n : Nat) : Are xs vs → ObIs (.list xs) { cls := .type "list", data := .seq vs.toArray n }
  | tup {xs : List V} {vs : List Value} (n : Nat) : Are xs vs → ObIs (.tup xs) { cls := .type "tuple", data := .seq vs.toArray n }
  | cell0 : ObIs (.cell none) { cls := .type "cell", data := .cell none }
  | cell {x : V} {v : Value} : Is x v → ObIs (.cell (some x)) { cls := .type "cell", data := .cell (some v) }
  | rng {a b c : Int} (t u v : Tok) : ObIs (.rng a b c) { cls := .type "range", data := .fields #[.int a t, .int b u, .int c v] }
  | raw {ob : Obj} : ob.isFreed = false → ObIs (.raw ob) ob
theorem ObIs.alive {o : O} {ob : Obj} (h : ObIs o ob) : ob.isFreed = false := by
  cases h with
  | raw h => exact h
  | _ => rfl

abbrev Hp := Addr → Option O
def put (H : Hp) (a : Addr) (o : O) : Hp := fun b => if b = a then some o else H b
theorem put_self (H : Hp) (a : Addr) (o : O) : put H a o a = some o := if_pos rfl
theorem put_ne (H : Hp) {a b : Addr} (o : O) (h : b ≠ a) : put H a o b = H b := if_neg h
theorem put_put (H : Hp) (a : Addr) (o o' : O) : put (put H a o) a o' = put H a o' := by
  funext b; unfold put; split <;> rfl

/-- the heap has grown -/
def Ext (H H' : Hp) : Prop := ∀ a o, H a = some o → H' a = some o
theorem Ext.refl (H : Hp) : Ext H H := fun _ _ h => h
theorem Ext.trans {H H' H'' : Hp} (h : Ext H H') (g : Ext H' H'') : Ext H H'' := fun a o e => g a o (h a o e)
theorem Ext.put {H H' : Hp} (h : Ext H H') {a : Addr} (o : O) (n : H a = none) : Ext H (put H' a o) := fun b x e => by
  have : b ≠ a := by rintro rfl; rw [n] at e; cases e
  rw [put_ne _ _ this]; exact h b x e

/-- what must stay as it is: objects, generators, the outside -/
structure Pr where
  obj : Addr → Option Obj
  gen : Nat → Option GenState
  os : OsState
def Pr.put (P : Pr) (a : Addr) (o : Obj) : Pr := { P with obj := fun b => if b = a then some o else P.obj b }
theorem Pr.put_ne (P : Pr) {a b : Addr} (o : Obj) (h : b ≠ a) : (P.put a o).obj b = P.obj b := if_neg h
theorem Pr.put_self (P : Pr) (a : Addr) (o : Obj) : (P.put a o).obj a = some o := if_pos rfl

structure Ok (P : Pr) (H : Hp) (s : Shared) : Prop where
  prot : ∀ a o, P.obj a = some o → s.heap.get? a = some o
  objs : ∀ a o, H a = some o → ∃ ob, s.heap.get? a = some ob ∧ ObIs o ob
  dis : ∀ a o, P.obj a = some o → H a = none
  gens : ∀ i g, P.gen i = some g → s.gens[i]? = some g
  bare : AllBare s.gens
  os : s.os = P.os

section
variable {P : Pr} {H : Hp} {s : Shared}
theorem Ok.ltP (K : Ok P H s) {a : Addr} {o : Obj} (h : P.obj a = some o) : a < s.heap.objs.size := Heap.lt_size (K.prot a o h)
theorem Ok.ltH (K : Ok P H s) {a : Addr} {o : O} (h : H a = some o) : a < s.heap.objs.size := by
  obtain ⟨ob, e, _⟩ := K.objs a o h
  exact Heap.lt_size e
theorem Ok.newP (K : Ok P H s) : P.obj s.heap.objs.size = none := by
  cases h : P.obj s.heap.objs.size with
  | none => rfl
  | some o => exact absurd (K.ltP h) (Nat.lt_irrefl _)
theorem Ok.newH (K : Ok P H s) : H s.heap.objs.size = none := by
  cases h : H s.heap.objs.size with
  | none => rfl
  | some o => exact absurd (K.ltH h) (Nat.lt_irrefl _)
theorem Ok.toks (K : Ok P H s) (t : Nat) : Ok P H { s with toks := t } := ⟨K.prot, K.objs, K.dis, K.gens, K.bare, K.os⟩
/-- a new object that the abstract heap does not tell -/
theorem Ok.push (K : Ok P H s) (ob : Obj) (t : Nat) : Ok P H { s with heap := s.heap.push ob, toks := t } :=
  ⟨fun a o h => Heap.get?_push_of_some _ (K.prot a o h), fun a o h => let ⟨x, e, i⟩ := K.objs a o h; ⟨x, Heap.get?_push_of_some _ e, i⟩, K.dis, K.gens, K.bare, K.os⟩
theorem Ok.pushH (K : Ok P H s) {o : O} {ob : Obj} (i : ObIs o ob) (t : Nat) : Ok P (put H s.heap.objs.size o) { s with heap := s.heap.push ob, toks := t } := by
  refine ⟨(K.push ob t).prot, fun a o' h => ?_, fun a o' h => ?_, K.gens, K.bare, K.os⟩
  · by_cases e : a = s.heap.objs.size
    · subst e
      rw [put_self] at h; cases h
      exact ⟨ob, Heap.get?_push_size _ i.alive, i⟩
    · rw [put_ne _ _ e] at h
      exact (K.push ob t).objs a o' h
  · rw [put_ne _ _ (Nat.ne_of_lt (K.ltP h))]; exact K.dis a o' h
theorem Ok.pushP (K : Ok P H s) {ob : Obj} (hf : ob.isFreed = false) (t : Nat) : Ok (P.put s.heap.objs.size ob) H { s with heap := s.heap.push ob, toks := t } := by
  refine ⟨fun a o h => ?_, (K.push ob t).objs, fun a o h => ?_, K.gens, K.bare, K.os⟩
  · by_cases e : a = s.heap.objs.size
    · subst e; rw [Pr.put_self] at h; cases h; exact Heap.get?_push_size _ hf
    · rw [Pr.put_ne _ _ e] at h; exact (K.push ob t).prot a o h
  · by_cases e : a = s.heap.objs.size
    · subst e; exact K.newH
    · rw [Pr.put_ne _ _ e] at h; exact K.dis a o h
theorem Ok.updH (K : Ok P H s) {a : Addr} {o o' : O} {ob' : Obj} {h' : Heap} (ha : H a = some o) (hs : Heap.SameBut a s.heap h') (e : h'.get? a = some ob') (i : ObIs o' ob') (t : Nat) : Ok P (put H a o') { s with heap := h', toks := t } := by
  refine ⟨fun b x h => ?_, fun b x h => ?_, fun b x h => ?_, K.gens, K.bare, K.os⟩
  · have hb : b ≠ a := by rintro rfl; have := K.dis _ _ h; rw [ha] at this; cases this
    exact (hs.2 b hb).trans (K.prot b x h)
  · by_cases hb : b = a
    · subst hb; rw [put_self] at h; cases h; exact ⟨ob', e, i⟩
    · rw [put_ne _ _ hb] at h
      obtain ⟨y, e', i'⟩ := K.objs b x h
      exact ⟨y, (hs.2 b hb).trans e', i'⟩
  · have hb : b ≠ a := by rintro rfl; have := K.dis _ _ h; rw [ha] at this; cases this
    rw [put_ne _ _ hb]; exact K.dis b x h
/-- a hidden object turned -/
theorem Ok.updP (K : Ok P H s) {a : Addr} {o o' : Obj} {h' : Heap} (ha : P.obj a = some o) (hs : Heap.SameBut a s.heap h') (e : h'.get? a = some o') (t : Nat) : Ok (P.put a o') H { s with heap := h', toks := t } := by
  refine ⟨fun b x h => ?_, fun b x h => ?_, fun b x h => ?_, K.gens, K.bare, K.os⟩
  · by_cases hb : b = a
    · subst hb; rw [Pr.put_self] at h; cases h; exact e
    · rw [Pr.put_ne _ _ hb] at h; exact (hs.2 b hb).trans (K.prot b x h)
  · have hb : b ≠ a := by rintro rfl; have := K.dis _ _ ha; rw [h] at this; cases this
    obtain ⟨y, e', i'⟩ := K.objs b x h
    exact ⟨y, (hs.2 b hb).trans e', i'⟩
  · by_cases hb : b = a
    · subst hb; exact K.dis _ _ ha
    · rw [Pr.put_ne _ _ hb] at h; exact K.dis b x h
/-- an object turned that neither tells (a frame's) -/
theorem Ok.updN (K : Ok P H s) {a : Addr} {h' : Heap} (hP : P.obj a = none) (hH : H a = none) (hs : Heap.SameBut a s.heap h') (t : Nat) : Ok P H { s with heap := h', toks := t } := by
  refine ⟨fun b x h => ?_, fun b x h => ?_, K.dis, K.gens, K.bare, K.os⟩
  · have hb : b ≠ a := by rintro rfl; rw [hP] at h; cases h
    exact (hs.2 b hb).trans (K.prot b x h)
  · have hb : b ≠ a := by rintro rfl; rw [hH] at h; cases h
    obtain ⟨y, e', i'⟩ := K.objs b x h
    exact ⟨y, (hs.2 b hb).trans e', i'⟩
theorem Ok.weak (K : Ok P H s) {P' : Pr} {H' : Hp} (hP : ∀ a o, P'.obj a = some o → P.obj a = some o) (hH : ∀ a o, H' a = some o → H a = some o) (hg : ∀ i g, P'.gen i = some g → P.gen i = some g) (ho : P'.os = P.os) : Ok P' H' s := by
  refine ⟨fun a o h => K.prot a o (hP a o h), fun a o h => K.objs a o (hH a o h), fun a o h => ?_, fun i g h => K.gens i g (hg i g h), K.bare, K.os.trans ho.symm⟩
  cases q : H' a with
  | none => rfl
  | some x => have := hH a x q; rw [K.dis a o (hP a o h)] at this; cases this
theorem Ok.list (K : Ok P H s) {a : Addr} {xs : List V} (h : H a = some (.list xs)) : ∃ vs n, Are xs vs ∧ s.heap.get? a = some { cls := .type "list", data := .seq vs.toArray n } := by
  obtain ⟨ob, e, i⟩ := K.objs a _ h
  cases i with
  | list n i => exact ⟨_, n, i, e⟩
theorem Ok.tup (K : Ok P H s) {a : Addr} {xs : List V} (h : H a = some (.tup xs)) : ∃ vs n, Are xs vs ∧ s.heap.get? a = some { cls := .type "tuple", data := .seq vs.toArray n } := by
  obtain ⟨ob, e, i⟩ := K.objs a _ h
  cases i with
  | tup n i => exact ⟨_, n, i, e⟩
theorem Ok.cell (K : Ok P H s) {a : Addr} {x : V} (h : H a = some (.cell (some x))) : ∃ v, Is x v ∧ s.heap.get? a = some { cls := .type "cell", data := .cell (some v) } := by
  obtain ⟨ob, e, i⟩ := K.objs a _ h
  cases i with
  | cell i => exact ⟨_, i, e⟩
theorem Ok.anyCell (K : Ok P H s) {a : Addr} {x : Option V} (h : H a = some (.cell x)) : ∃ v, s.heap.get? a = some { cls := .type "cell", data := .cell v } := by
  obtain ⟨ob, e, i⟩ := K.objs a _ h
  cases i with
  | cell0 => exact ⟨_, e⟩
  | cell i => exact ⟨_, e⟩
theorem Ok.rng (K : Ok P H s) {a : Addr} {x y z : Int} (h : H a = some (.rng x y z)) : ∃ t u v, IsRange s.heap a x y z t u v := by
  obtain ⟨ob, e, i⟩ := K.objs a _ h
  cases i with
  | rng t u v => exact ⟨t, u, v, e⟩
theorem Ok.raw (K : Ok P H s) {a : Addr} {ob : Obj} (h : H a = some (.raw ob)) : s.heap.get? a = some ob := by
  obtain ⟨ob, e, i⟩ := K.objs a _ h
  cases i with
  | raw i => exact e
theorem Ok.isList (K : Ok P H s) {a : Addr} {xs : List V} (h : H a = some (.list xs)) : ∃ vs, Are xs vs ∧ s.heap.IsList a vs.toArray := by
  obtain ⟨vs, n, i, e⟩ := K.list h
  exact ⟨vs, i, _, e, rfl, n, rfl⟩
end

/-- a frame's static part: its block's table, the names that have a place in its own dict, its cells -/
structure FI where
  sc : Scope
  names : List Str
  cells : List (Str × Addr)

/-- what a look at a frame's static part finds -/
def locOk (sc : Scope) (names : List Str) : Bool := names.all fun x => sc.names.lookup x == some .local
def celOk (sc : Scope) (cs : List Str) : Bool := cs.all fun x => sc.names.lookup x == some .cell || sc.names.lookup x == some .free

structure Fm (F : FI) (env : Env) (vars : List (Option V)) (P : Pr) (H : Hp) (s : Shared) : Prop where
  sc : env.scope = F.sc
  kind : F.sc.kind = .function
  glob : env.globals = mainGlobals
  blt : env.builtins = builtinsNs
  nd : F.names.Nodup
  loc : locOk F.sc F.names = true
  cel : celOk F.sc (F.cells.map (·.1)) = true
  locP : P.obj env.locals = none
  locH : H env.locals = none
  ns : ∃ m, s.heap.Ns env.locals m ∧ ∀ (i : Nat) (x : Str) (v : V), F.names[i]? = some x → vars[i]? = some (some v) → ∃ val, m x = some val ∧ Is v val
  cells : ∀ x c, (x, c) ∈ F.cells → env.cells.lookup x = some c
  coro : env.scope.isCoroutine = false

section
variable {F : FI} {env : Env} {vars : List (Option V)} {P : Pr} {H : Hp} {s : Shared}
theorem Fm.mono (K : Fm F env vars P H s) {P' : Pr} {H' : Hp} {s' : Shared} (hk : ∀ o, s.heap.get? env.locals = some o → s'.heap.get? env.locals = some o) (hH : env.locals < s.heap.objs.size → H' env.locals = none) (hP : env.locals < s.heap.objs.size → P'.obj env.locals = none) : Fm F env vars P' H' s' := by
  obtain ⟨m, ⟨o, es, ep, ho, r⟩, hv⟩ := K.ns
  exact ⟨K.sc, K.kind, K.glob, K.blt, K.nd, K.loc, K.cel, hP (Heap.lt_size ho), hH (Heap.lt_size ho), ⟨m, ⟨o, es, ep, hk _ ho, r⟩, hv⟩, K.cells, K.coro⟩
theorem Fm.lt (K : Fm F env vars P H s) : env.locals < s.heap.objs.size := let ⟨_, hn, _⟩ := K.ns; hn.lt
theorem Fm.keep (K : Fm F env vars P H s) {s' : Shared} (hk : ∀ b o, s.heap.get? b = some o → s'.heap.get? b = some o) : Fm F env vars P H s' := K.mono (fun o e => hk _ o e) (fun _ => K.locH) fun _ => K.locP
theorem Fm.toks (K : Fm F env vars P H s) (t : Nat) : Fm F env vars P H { s with toks := t } := K.mono (fun _ e => e) (fun _ => K.locH) fun _ => K.locP
theorem Fm.push (K : Fm F env vars P H s) (ob : Obj) (t : Nat) : Fm F env vars P H { s with heap := s.heap.push ob, toks := t } := K.mono (fun _ e => Heap.get?_push_of_some _ e) (fun _ => K.locH) fun _ => K.locP
theorem Fm.pushH (K : Fm F env vars P H s) (ob : Obj) (o : O) (t : Nat) : Fm F env vars P (put H s.heap.objs.size o) { s with heap := s.heap.push ob, toks := t } :=
  K.mono (fun _ e => Heap.get?_push_of_some _ e) (fun h => by rw [put_ne _ _ (Nat.ne_of_lt h)]; exact K.locH) fun _ => K.locP
theorem Fm.pushP (K : Fm F env vars P H s) (ob o : Obj) (t : Nat) : Fm F env vars (P.put s.heap.objs.size o) H { s with heap := s.heap.push ob, toks := t } :=
  K.mono (fun _ e => Heap.get?_push_of_some _ e) (fun _ => K.locH) fun h => by rw [Pr.put_ne _ _ (Nat.ne_of_lt h)]; exact K.locP
theorem Fm.updH (K : Fm F env vars P H s) {a : Addr} {o o' : O} {h' : Heap} (ha : H a = some o) (hs : Heap.SameBut a s.heap h') (t : Nat) : Fm F env vars P (put H a o') { s with heap := h', toks := t } := by
  have ne : env.locals ≠ a := by rintro rfl; rw [K.locH] at ha; cases ha
  exact K.mono (fun _ e => (hs.2 _ ne).trans e) (fun _ => by rw [put_ne _ _ ne]; exact K.locH) fun _ => K.locP

/-- the frame kept while something else runs -/
theorem Fm.guard (K : Fm F env vars P H s) (O : Ok P H s) : ∃ P' : Pr, (∀ a o, P.obj a = some o → P'.obj a = some o) ∧ P'.gen = P.gen ∧ P'.os = P.os ∧ Ok P' H s ∧ ∀ H' s', Ok P' H' s' → Fm F env vars P H' s' ∧ Ok P H' s' := by
  classical
  refine ⟨{ P with obj := fun b => if H b = none then s.heap.get? b else none }, fun a o h => ?_, rfl, rfl, ⟨fun a o h => ?_, O.objs, fun a o h => ?_, O.gens, O.bare, O.os⟩, fun H' s' O' => ?_⟩
  · show (if H a = none then s.heap.get? a else none) = some o
    rw [if_pos (O.dis a o h)]; exact O.prot a o h
  · have h' : (if H a = none then s.heap.get? a else none) = some o := h
    split at h'
    · exact h'
    · cases h'
  · have h' : (if H a = none then s.heap.get? a else none) = some o := h
    split at h'
    · assumption
    · cases h'
  · have key : ∀ b o, H b = none → s.heap.get? b = some o → s'.heap.get? b = some o ∧ H' b = none := fun b o h e => by
      have q : (if H b = none then s.heap.get? b else none) = some o := by rw [if_pos h]; exact e
      exact ⟨O'.prot b o q, O'.dis b o q⟩
    obtain ⟨m, ⟨o, _, _, ho, _⟩, _⟩ := K.ns
    refine ⟨K.mono (fun o e => (key _ o K.locH e).1) (fun _ => (key _ o K.locH ho).2) fun _ => K.locP, O'.weak (fun a o h => ?_) (fun _ _ h => h) (fun _ _ h => h) rfl⟩
    show (if H a = none then s.heap.get? a else none) = some o
    rw [if_pos (O.dis a o h)]; exact O.prot a o h
end

/-- room for k calls within each other -/
def Room (k : Nat) (A : Around) : Prop := A.handled = none ∧ A.guards = some [] ∧ A.depth + k < recursionLimit ∧ A.units + 16 * k + 80 < cLine
theorem Room.mono {k j : Nat} {A : Around} (h : Room k A) (hj : j ≤ k) : Room j A := by unfold Room at *; refine ⟨h.1, h.2.1, ?_, ?_⟩ <;> omega
theorem Room.in1 {k : Nat} {A : Around} (h : Room (k + 1) A) : Room k A.in1 := by unfold Room at *; refine ⟨h.1, h.2.1, ?_, ?_⟩; exact (by show A.depth + k < _; omega); (show A.units + 1 + 16 * k + 80 < _); omega
theorem Room.deeper {k : Nat} {A : Around} (h : Room (k + 1) A) (env : Env) : Room k (A.deeper env) := by
  unfold Room at *; refine ⟨h.1, h.2.1, ?_, ?_⟩ <;> simp only [Around.deeper] <;> omega
theorem Room.depth {k : Nat} {A : Around} (h : Room k A) : A.depth < recursionLimit := by have := h.2.2.1; omega
theorem Room.units64 {k : Nat} {A : Around} (h : Room k A) : A.units + 64 < cLine := by have := h.2.2.2; omega
theorem Room.units {k : Nat} {A : Around} (h : Room k A) : A.units < cLine := by have := h.2.2.2; omega

/-- the program, the world, what its top left -/
structure Base where
  prog : Program
  w : World
  obj : Addr → Option Obj
  mg : Str → Option Value
  mb : Str → Option Value
  limit : ∀ h : Heap, (∀ a o, obj a = some o → h.get? a = some o) → h.NoLimit
  glob : ∀ h : Heap, (∀ a o, obj a = some o → h.get? a = some o) → h.Ns mainGlobals mg
  blt : ∀ h : Heap, (∀ a o, obj a = some o → h.get? a = some o) → h.Ns builtinsNs mb
def Base.In (B : Base) (P : Pr) : Prop := ∀ a o, B.obj a = some o → P.obj a = some o
abbrev Base.M (B : Base) : Model := model B.prog B.w
theorem Base.In.heap {B : Base} {P : Pr} (h : B.In P) {H : Hp} {s : Shared} (K : Ok P H s) : ∀ a o, B.obj a = some o → s.heap.get? a = some o := fun a o e => K.prot a o (h a o e)
theorem Base.In.put {B : Base} {P : Pr} (h : B.In P) {H : Hp} {s : Shared} (K : Ok P H s) (ob : Obj) : B.In (P.put s.heap.objs.size ob) := fun a o e => by
  rw [Pr.put_ne _ _ (Nat.ne_of_lt (K.ltP (h a o e)))]; exact h a o e
/-- not of the base -/
def Base.Off (B : Base) (P : Pr) (a : Addr) : Prop := ∀ o, B.obj a = some o → False

/-- an expression's value -/
def WE (B : Base) (k : Nat) (F : FI) (e : PySem.Expr) (vars : List (Option V)) (H : Hp) (Φ : V → Hp → Prop) : Prop :=
  ∀ A env P s, Room k A → B.In P → Fm F env vars P H s → Ok P H s →
    wpAny B.M A (eval e env) (fun val s' => ∃ v H', Is v val ∧ Fm F env vars P H' s' ∧ Ok P H' s' ∧ Φ v H') (fun _ _ => False) s
/-- a test -/
def WT (B : Base) (k : Nat) (F : FI) (e : PySem.Expr) (vars : List (Option V)) (H : Hp) (Φ : Bool → Hp → Prop) : Prop :=
  ∀ A env P s, Room k A → B.In P → Fm F env vars P H s → Ok P H s →
    wpAny B.M A (isTrue e env (eval e env)) (fun b s' => ∃ H', Fm F env vars P H' s' ∧ Ok P H' s' ∧ Φ b H') (fun _ _ => False) s
/-- a row of expressions -/
def WEs (B : Base) (k : Nat) (F : FI) (es : List PySem.Expr) (vars : List (Option V)) (H : Hp) (Φ : List V → Hp → Prop) : Prop :=
  ∀ A env P s pos, Room k A → B.In P → Fm F env vars P H s → Ok P H s →
    wpAny B.M A (spliced (backTo pos (starEach es env))) (fun vals s' => ∃ vs H', Are vs vals ∧ Fm F env vars P H' s' ∧ Ok P H' s' ∧ Φ vs H') (fun _ _ => False) s
/-- how a statement ends -/
inductive Fl where
  | next | brk | cont
  | ret (v : V)
inductive FlIs : Fl → Flow → Prop where
  | next : FlIs .next .next
  | brk : FlIs .brk .brk
  | cont : FlIs .cont .cont
  | ret {v : V} {val : Value} : Is v val → FlIs (.ret v) (.ret val)
def WS (B : Base) (k : Nat) (F : FI) (st : Stmt) (vars : List (Option V)) (H : Hp) (Φ : Fl → List (Option V) → Hp → Prop) : Prop :=
  ∀ A env P s, Room k A → B.In P → Fm F env vars P H s → Ok P H s →
    wpAny B.M A (exec st env) (fun fl s' => ∃ f vars' H', FlIs f fl ∧ Fm F env vars' P H' s' ∧ Ok P H' s' ∧ Φ f vars' H') (fun _ _ => False) s
def WSs (B : Base) (k : Nat) (F : FI) (sts : List Stmt) (vars : List (Option V)) (H : Hp) (Φ : Fl → List (Option V) → Hp → Prop) : Prop :=
  ∀ A env P s, Room k A → B.In P → Fm F env vars P H s → Ok P H s →
    wpAny B.M A (execs sts env) (fun fl s' => ∃ f vars' H', FlIs f fl ∧ Fm F env vars' P H' s' ∧ Ok P H' s' ∧ Φ f vars' H') (fun _ _ => False) s
/-- a store into a target -/
def WA (B : Base) (k : Nat) (F : FI) (t : PySem.Expr) (v : V) (vars : List (Option V)) (H : Hp) (Φ : List (Option V) → Hp → Prop) : Prop :=
  ∀ A env P s val, Room k A → B.In P → Fm F env vars P H s → Ok P H s → Is v val →
    wpAny B.M A (assign t env val) (fun _ s' => ∃ vars' H', Fm F env vars' P H' s' ∧ Ok P H' s' ∧ Φ vars' H') (fun _ _ => False) s
/-- something done to values -/
def WO (B : Base) (k : Nat) (g : List Value → Sem Value) (args : List V) (H : Hp) (Φ : V → Hp → Prop) : Prop :=
  ∀ A P s vals, Room k A → B.In P → Ok P H s → Are args vals →
    wpAny B.M A (g vals) (fun val s' => ∃ v H', Is v val ∧ Ok P H' s' ∧ Φ v H') (fun _ _ => False) s
/-- a call of a thing with values -/
abbrev WC (B : Base) (k : Nat) (f : Value) (args : List V) (H : Hp) (Φ : V → Hp → Prop) : Prop := WO B k (fun vals => call f vals) args H Φ
/-- a binary operator, a comparison, an item -/
abbrev WBin (B : Base) (k : Nat) (op : Operator) (a b : V) (H : Hp) (Φ : V → Hp → Prop) : Prop := WO B k (fun vals => binaryOp op (vals.getD 0 .none) (vals.getD 1 .none)) [a, b] H Φ
abbrev WInp (B : Base) (k : Nat) (op : Operator) (a b : V) (H : Hp) (Φ : V → Hp → Prop) : Prop := WO B k (fun vals => inplaceOp op (vals.getD 0 .none) (vals.getD 1 .none)) [a, b] H Φ
abbrev WCmp (B : Base) (k : Nat) (op : CmpOp) (a b : V) (H : Hp) (Φ : V → Hp → Prop) : Prop := WO B k (fun vals => compareOp op (vals.getD 0 .none) (vals.getD 1 .none)) [a, b] H Φ
/-- the truth of a value -/
def WTr (B : Base) (k : Nat) (a : V) (H : Hp) (Φ : Bool → Hp → Prop) : Prop :=
  ∀ A P s val, Room k A → B.In P → Ok P H s → Is a val →
    wpAny B.M A (truthy val) (fun b s' => ∃ H', Ok P H' s' ∧ Φ b H') (fun _ _ => False) s

section
variable {B : Base} {k : Nat} {F : FI} {vars : List (Option V)} {H : Hp}
theorem noE {α : Type} {M : Model} {A : Around} {t : Sem α} {Q Q' : α → Shared → Prop} {E : Value → Shared → Prop} {s : Shared} (h : wpAny M A t Q (fun _ _ => False) s) (hQ : ∀ a s', Q a s' → Q' a s') : wpAny M A t Q' E s :=
  wpAny_mono h hQ fun _ _ f => f.elim
theorem WE.mono {e : PySem.Expr} {Φ Ψ : V → Hp → Prop} (h : WE B k F e vars H Φ) (g : ∀ v H', Φ v H' → Ψ v H') : WE B k F e vars H Ψ :=
  fun A env P s r i f o => noE (h A env P s r i f o) fun _ _ ⟨v, H', a, b, c, d⟩ => ⟨v, H', a, b, c, g _ _ d⟩
theorem WT.mono {e : PySem.Expr} {Φ Ψ : Bool → Hp → Prop} (h : WT B k F e vars H Φ) (g : ∀ v H', Φ v H' → Ψ v H') : WT B k F e vars H Ψ :=
  fun A env P s r i f o => noE (h A env P s r i f o) fun _ _ ⟨H', b, c, d⟩ => ⟨H', b, c, g _ _ d⟩
theorem WSs.mono {sts : List Stmt} {Φ Ψ : Fl → List (Option V) → Hp → Prop} (h : WSs B k F sts vars H Φ) (g : ∀ f v H', Φ f v H' → Ψ f v H') : WSs B k F sts vars H Ψ :=
  fun A env P s r i f o => noE (h A env P s r i f o) fun _ _ ⟨v, w, H', a, b, c, d⟩ => ⟨v, w, H', a, b, c, g _ _ _ d⟩
theorem WO.mono {g : List Value → Sem Value} {args : List V} {Φ Ψ : V → Hp → Prop} (h : WO B k g args H Φ) (q : ∀ v H', Φ v H' → Ψ v H') : WO B k g args H Ψ :=
  fun A P s vals r i o a => noE (h A P s vals r i o a) fun _ _ ⟨v, H', a, b, d⟩ => ⟨v, H', a, b, q _ _ d⟩
theorem WO.le {g : List Value → Sem Value} {args : List V} {Φ : V → Hp → Prop} {j : Nat} (h : WO B k g args H Φ) (hj : k ≤ j) : WO B j g args H Φ :=
  fun A P s vals r => h A P s vals (r.mono hj)
/-- what is done to values, done within a frame -/
theorem WO.fr {g : List Value → Sem Value} {args : List V} {Φ : V → Hp → Prop} (h : WO B k g args H Φ) {A : Around} {env : Env} {P : Pr} {s : Shared} {vals : List Value} (r : Room k A) (i : B.In P) (f : Fm F env vars P H s) (o : Ok P H s) (a : Are args vals) :
    wpAny B.M A (g vals) (fun val s' => ∃ v H', Is v val ∧ Fm F env vars P H' s' ∧ Ok P H' s' ∧ Φ v H') (fun _ _ => False) s := by
  obtain ⟨P', hP, _, _, o', back⟩ := f.guard o
  exact noE (h A P' s vals r (fun a o e => hP a o (i a o e)) o' a) fun _ _ ⟨v, H', a, b, d⟩ => ⟨v, H', a, (back _ _ b).1, (back _ _ b).2, d⟩
theorem WTr.fr {x : V} {Φ : Bool → Hp → Prop} (h : WTr B k x H Φ) {A : Around} {env : Env} {P : Pr} {s : Shared} {val : Value} (r : Room k A) (i : B.In P) (f : Fm F env vars P H s) (o : Ok P H s) (a : Is x val) :
    wpAny B.M A (truthy val) (fun b s' => ∃ H', Fm F env vars P H' s' ∧ Ok P H' s' ∧ Φ b H') (fun _ _ => False) s := by
  obtain ⟨P', hP, _, _, o', back⟩ := f.guard o
  exact noE (h A P' s val r (fun a o e => hP a o (i a o e)) o' a) fun _ _ ⟨H', b, d⟩ => ⟨H', (back _ _ b).1, (back _ _ b).2, d⟩
end
end Mine
end
noncomputable section
open PySem PySem.W PyProof.Rows
namespace Mine
section
variable {B : Base} {k : Nat} {F : FI} {vars : List (Option V)} {H : Hp}

/-! constants -/
theorem WE.int {i : Int} {n : Nat} {pos : Pos} {Φ : V → Hp → Prop} (h : Φ (.int i) H) : WE B k F (.Constant (.int i) n pos) vars H Φ :=
  fun _ _ _ s _ _ f o => wpAny_Constant_int ⟨_, _, .int i s.toks, f.toks _, o.toks _, h⟩
theorem WE.str {x : Str} {n : Nat} {pos : Pos} {Φ : V → Hp → Prop} (h : Φ (.str x) H) : WE B k F (.Constant (.str x) n pos) vars H Φ :=
  fun _ _ _ s _ _ f o => Calls.Constant_str ⟨_, _, .str x s.toks, f.toks _, o.toks _, h⟩
theorem WE.bool {b : Bool} {n : Nat} {pos : Pos} {Φ : V → Hp → Prop} (h : Φ (.bool b) H) : WE B k F (.Constant (.bool b) n pos) vars H Φ :=
  fun _ _ _ _ _ _ f o _ _ _ => ⟨_, _, .bool b, f, o, h⟩
theorem WE.cnone {n : Nat} {pos : Pos} {Φ : V → Hp → Prop} (h : Φ .none H) : WE B k F (.Constant .none n pos) vars H Φ :=
  fun _ _ _ _ _ _ f o _ _ _ => ⟨_, _, .none, f, o, h⟩

/-! names -/
inductive At : List Str → List (Option V) → Str → V → Prop where
  | head {x : Str} {ns : List Str} {v : V} {vs : List (Option V)} : At (x :: ns) (some v :: vs) x v
  | tail {n x : Str} {ns : List Str} {o : Option V} {v : V} {vs : List (Option V)} : At ns vs x v → At (n :: ns) (o :: vs) x v
theorem At.get {ns : List Str} {vs : List (Option V)} {x : Str} {v : V} (h : At ns vs x v) : ∃ i : Nat, ns[i]? = some x ∧ vs[i]? = some (some v) := by
  induction h with
  | head => exact ⟨0, rfl, rfl⟩
  | tail _ ih => obtain ⟨i, a, b⟩ := ih; exact ⟨i + 1, a, b⟩
theorem Fm.isLoc {env : Env} {P : Pr} {s : Shared} (f : Fm F env vars P H s) {x : Str} {i : Nat} (h : F.names[i]? = some x) : env.kindOf x = some .local := by
  have := List.all_eq_true.mp f.loc x (List.mem_of_getElem? h)
  unfold Env.kindOf; rw [f.sc]; exact eq_of_beq this
theorem Fm.isCel {env : Env} {P : Pr} {s : Shared} (f : Fm F env vars P H s) {x : Str} {c : Addr} (h : (x, c) ∈ F.cells) : env.kindOf x = some .cell ∨ env.kindOf x = some .free := by
  have := List.all_eq_true.mp f.cel x (List.mem_map.mpr ⟨_, h, rfl⟩)
  unfold Env.kindOf; rw [f.sc]
  rcases Bool.or_eq_true_iff.mp this with e | e
  · exact .inl (eq_of_beq e)
  · exact .inr (eq_of_beq e)
theorem Fm.fn {env : Env} {P : Pr} {s : Shared} (f : Fm F env vars P H s) : env.scope.kind = .function := by rw [f.sc]; exact f.kind
theorem WE.loc {x : Str} {pos : Pos} {v : V} {Φ : V → Hp → Prop} (h : At F.names vars x v) (q : Φ v H) (hd : (x == ("__debug__" : Str)) = false := by decide +kernel) : WE B k F (.Name x pos) vars H Φ := by
  intro A env P s _ _ f o
  obtain ⟨i, hn, hv⟩ := h.get
  obtain ⟨m, hm, hl⟩ := f.ns
  obtain ⟨val, e, is⟩ := hl i x v hn hv
  exact wpAny_Name (wpAny_loadName_local f.fn (f.isLoc hn) hm e ⟨_, _, is, f, o, q⟩) hd
theorem WE.cel {x : Str} {pos : Pos} {v : V} {c : Addr} {Φ : V → Hp → Prop} (h : (x, c) ∈ F.cells) (e : H c = some (.cell (some v))) (q : Φ v H)
    (hd : (x == ("__debug__" : Str)) = false := by decide +kernel) (hc : (x == ("__classdict__" : Str)) = false := by decide +kernel) : WE B k F (.Name x pos) vars H Φ := by
  intro A env P s _ _ f o
  obtain ⟨val, is, ho⟩ := o.cell e
  rcases f.isCel h with k | k
  · exact wpAny_Name (wpAny_loadName_cell f.fn k (f.cells _ _ h) ⟨_, ho, rfl⟩ ⟨_, _, is, f, o, q⟩) hd
  · exact wpAny_Name (wpAny_loadName_free f.fn k (f.cells _ _ h) ⟨_, ho, rfl⟩ ⟨_, _, is, f, o, q⟩ hc) hd
theorem WE.glo {x : Str} {pos : Pos} {v : Value} {Φ : V → Hp → Prop} (h : F.sc.names.lookup x = some .globalImplicit) (e : B.mg x = some v) (q : Φ (.val v) H)
    (hd : (x == ("__debug__" : Str)) = false := by decide +kernel) : WE B k F (.Name x pos) vars H Φ := by
  intro A env P s _ i f o
  refine Calls.Name_function_global f.fn (by unfold Env.kindOf; rw [f.sc]; exact h) (Calls.loadGlobal_global (mg := B.mg) ?_ e ⟨_, _, .val v, f, o, q⟩) hd
  rw [f.glob]; exact B.glob _ (i.heap o)
theorem WE.blt {x : Str} {pos : Pos} {v : Value} {Φ : V → Hp → Prop} (h : F.sc.names.lookup x = some .globalImplicit) (n : B.mg x = none) (e : B.mb x = some v) (q : Φ (.val v) H)
    (hd : (x == ("__debug__" : Str)) = false := by decide +kernel) : WE B k F (.Name x pos) vars H Φ := by
  intro A env P s _ i f o
  refine Calls.Name_function_global f.fn (by unfold Env.kindOf; rw [f.sc]; exact h) (Calls.loadGlobal_builtin (mg := B.mg) (mb := B.mb) ?_ n ?_ e ⟨_, _, .val v, f, o, q⟩) hd
  · rw [f.glob]; exact B.glob _ (i.heap o)
  · rw [f.blt]; exact B.blt _ (i.heap o)

/-! operators -/
theorem WE.bin {op : Operator} {l r : PySem.Expr} {pos : Pos} {Φ : V → Hp → Prop} (h : WE B k F l vars H fun a H1 => WE B k F r vars H1 fun b H2 => WBin B k op a b H2 Φ) :
    WE B k F (.BinOp l op r pos) vars H Φ := by
  intro A env P s rm i f o
  refine wpAny_BinOp (wpAny_mono (h A env P s rm i f o) ?_ fun _ _ f => f.elim)
  rintro x s1 ⟨a, H1, ia, f1, o1, h1⟩
  refine wpAny_mono (h1 A env P s1 rm i f1 o1) ?_ fun _ _ f => f.elim
  rintro y s2 ⟨b, H2, ib, f2, o2, h2⟩
  exact WO.fr h2 rm i f2 o2 (.cons ia (.cons ib .nil))
theorem WE.cmp {op : CmpOp} {l r : PySem.Expr} {pos : Pos} {Φ : V → Hp → Prop} (h : WE B k F l vars H fun a H1 => WE B k F r vars H1 fun b H2 => WCmp B k op a b H2 Φ)
    (hm : behindInMarks op r = false := by with_unfolding_all rfl) : WE B k F (.Compare l [op] [r] pos) vars H Φ := by
  intro A env P s rm i f o
  refine wpAny_Compare1 (wpAny_mono (h A env P s rm i f o) ?_ fun _ _ f => f.elim) hm
  rintro x s1 ⟨a, H1, ia, f1, o1, h1⟩
  refine wpAny_mono (h1 A env P s1 rm i f1 o1) ?_ fun _ _ f => f.elim
  rintro y s2 ⟨b, H2, ib, f2, o2, h2⟩
  exact WO.fr h2 rm i f2 o2 (.cons ia (.cons ib .nil))
theorem WT.cmp {op : CmpOp} {l r : PySem.Expr} {pos : Pos} {Φ : Bool → Hp → Prop} (h : WE B k F l vars H fun a H1 => WE B k F r vars H1 fun b H2 => WCmp B k op a b H2 fun c H3 => WTr B k c H3 Φ)
    (hm : behindInMarks op r = false := by with_unfolding_all rfl) : WT B k F (.Compare l [op] [r] pos) vars H Φ := by
  intro A env P s rm i f o
  refine wpAny_isTrue_Compare1 (wpAny_mono (h A env P s rm i f o) ?_ fun _ _ f => f.elim) hm
  rintro x s1 ⟨a, H1, ia, f1, o1, h1⟩
  refine wpAny_mono (h1 A env P s1 rm i f1 o1) ?_ fun _ _ f => f.elim
  rintro y s2 ⟨b, H2, ib, f2, o2, h2⟩
  refine wpAny_mono (WO.fr h2 rm i f2 o2 (.cons ia (.cons ib .nil))) ?_ fun _ _ f => f.elim
  rintro z s3 ⟨c, H3, ic, f3, o3, h3⟩
  exact WTr.fr h3 rm i f3 o3 ic
theorem WT.plain {e : PySem.Expr} {Φ : Bool → Hp → Prop} (h : WE B k F e vars H fun c H1 => WTr B k c H1 Φ)
    (hp : ∀ env whole, isTrue e env whole = (do let v ← whole; standAt e.pos; holding [v] (truthy v)) := by intros; with_unfolding_all rfl) : WT B k F e vars H Φ := by
  intro A env P s rm i f o
  rw [hp]
  refine wpAny_bind (wpAny_mono (h A env P s rm i f o) ?_ fun _ _ f => f.elim)
  rintro x s1 ⟨a, H1, ia, f1, o1, h1⟩
  exact wpAny_bind (wpAny_standAt (wpAny_holding (WTr.fr h1 rm i f1 o1 ia)))
theorem WT.not {e : PySem.Expr} {pos : Pos} {Φ : Bool → Hp → Prop} (h : WT B k F e vars H fun c H1 => Φ (!c) H1) : WT B k F (.UnaryOp .Not e pos) vars H Φ := by
  intro A env P s rm i f o
  exact wpAny_isTrue_Not (h A env P s rm i f o)
theorem WT.and {x y : PySem.Expr} {pos : Pos} {Φ : Bool → Hp → Prop} (h : WT B k F x vars H fun c H1 => (c = false → Φ false H1) ∧ (c = true → WT B k F y vars H1 Φ)) : WT B k F (.BoolOp .And [x, y] pos) vars H Φ := by
  intro A env P s rm i f o
  rw [arm_isTrue_BoolOp, arm_allTrue_cons]
  refine wpAny_bind (wpAny_mono (h A env P s rm i f o) ?_ fun _ _ f => f.elim)
  rintro c s1 ⟨H1, f1, o1, h1⟩
  cases c with
  | false => exact wpAny_pure ⟨_, f1, o1, h1.1 rfl⟩
  | true =>
    show wpAny _ _ (allTrue .And [y] env) _ _ _
    rw [arm_allTrue_cons]
    refine wpAny_bind (wpAny_mono (h1.2 rfl A env P s1 rm i f1 o1) ?_ fun _ _ f => f.elim)
    rintro c s2 ⟨H2, f2, o2, h2⟩
    cases c with
    | false => exact wpAny_pure ⟨_, f2, o2, h2⟩
    | true => exact wpAny_pure (M := B.M) (a := true) ⟨_, f2, o2, h2⟩
theorem WT.or {x y : PySem.Expr} {pos : Pos} {Φ : Bool → Hp → Prop} (h : WT B k F x vars H fun c H1 => (c = true → Φ true H1) ∧ (c = false → WT B k F y vars H1 Φ)) : WT B k F (.BoolOp .Or [x, y] pos) vars H Φ := by
  intro A env P s rm i f o
  rw [arm_isTrue_BoolOp, arm_allTrue_cons]
  refine wpAny_bind (wpAny_mono (h A env P s rm i f o) ?_ fun _ _ f => f.elim)
  rintro c s1 ⟨H1, f1, o1, h1⟩
  cases c with
  | true => exact wpAny_pure ⟨_, f1, o1, h1.1 rfl⟩
  | false =>
    show wpAny _ _ (allTrue .Or [y] env) _ _ _
    rw [arm_allTrue_cons]
    refine wpAny_bind (wpAny_mono (h1.2 rfl A env P s1 rm i f1 o1) ?_ fun _ _ f => f.elim)
    rintro c s2 ⟨H2, f2, o2, h2⟩
    cases c with
    | true => exact wpAny_pure ⟨_, f2, o2, h2⟩
    | false => exact wpAny_pure (M := B.M) (a := false) ⟨_, f2, o2, h2⟩
theorem WE.and {x y : PySem.Expr} {pos : Pos} {Φ : V → Hp → Prop} (h : WE B k F x vars H fun v H1 => WTr B k v H1 fun c H2 => (c = false → Φ v H2) ∧ (c = true → WE B k F y vars H2 Φ)) : WE B k F (.BoolOp .And [x, y] pos) vars H Φ := by
  intro A env P s rm i f o
  refine wpAny_And2 (wpAny_mono (h A env P s rm i f o) ?_ fun _ _ f => f.elim)
  rintro v s1 ⟨a, H1, ia, f1, o1, h1⟩
  refine wpAny_mono (WTr.fr h1 rm i f1 o1 ia) ?_ fun _ _ f => f.elim
  rintro c s2 ⟨H2, f2, o2, h2⟩
  cases c with
  | false => exact ⟨_, _, ia, f2, o2, h2.1 rfl⟩
  | true => exact h2.2 rfl A env P s2 rm i f2 o2
theorem WE.ifx {c x y : PySem.Expr} {pos : Pos} {Φ : V → Hp → Prop} (h : WT B k F c vars H fun b H1 => (b = true → WE B k F x vars H1 Φ) ∧ (b = false → WE B k F y vars H1 Φ)) : WE B k F (.IfExp c x y pos) vars H Φ := by
  intro A env P s rm i f o
  refine wpAny_IfExp (wpAny_mono (h A env P s rm i f o) ?_ fun _ _ f => f.elim)
  rintro b s1 ⟨H1, f1, o1, h1⟩
  cases b with
  | false => exact h1.2 rfl A env P s1 rm i f1 o1
  | true => exact h1.1 rfl A env P s1 rm i f1 o1
theorem WE.not {e : PySem.Expr} {pos : Pos} {Φ : V → Hp → Prop} (h : WE B k F e vars H fun v H1 => WTr B k v H1 fun c H2 => Φ (.bool (!c)) H2) : WE B k F (.UnaryOp .Not e pos) vars H Φ := by
  intro A env P s rm i f o
  refine wpAny_UnaryOp (wpAny_mono (h A env P s rm i f o) ?_ fun _ _ f => f.elim)
  rintro v s1 ⟨a, H1, ia, f1, o1, h1⟩
  refine not_of (wpAny_mono (WTr.fr h1 rm i f1 o1 ia) ?_ fun _ _ f => f.elim)
  rintro c s2 ⟨H2, f2, o2, h2⟩
  exact ⟨_, _, .bool _, f2, o2, h2⟩
theorem WE.neg {i : Int} {n : Nat} {p pos : Pos} {Φ : V → Hp → Prop} (h : Φ (.int (-i)) H) : WE B k F (.UnaryOp .USub (.Constant (.int i) n p) pos) vars H Φ := by
  intro A env P s rm _ f o
  exact wpAny_UnaryOp (wpAny_Constant_int (PySem.P.neg_int ⟨_, _, .int _ _, f.toks _, o.toks _, h⟩))

/-! rows of expressions, displays -/
theorem WEs.nil {Φ : List V → Hp → Prop} (h : Φ [] H) : WEs B k F [] vars H Φ := fun _ _ _ _ _ _ _ f o => Calls.spliced_nil ⟨_, _, .nil, f, o, h⟩
theorem WEs.cons {e : PySem.Expr} {es : List PySem.Expr} {Φ : List V → Hp → Prop} (h : WE B k F e vars H fun v H1 => WEs B k F es vars H1 fun vs H2 => Φ (v :: vs) H2)
    (hs : ∀ env, starEach (e :: es) env = (false, eval e env) :: starEach es env := by intro; with_unfolding_all rfl) : WEs B k F (e :: es) vars H Φ := by
  intro A env P s pos rm i f o
  rw [hs]
  show wpAny _ _ (spliced ((false, eval e env) :: backTo pos (starEach es env))) _ _ _
  refine Calls.spliced_cons (wpAny_mono (h A env P s rm i f o) ?_ fun _ _ f => f.elim)
  rintro v s1 ⟨a, H1, ia, f1, o1, h1⟩
  refine wpAny_mono (h1 A env P s1 pos rm i f1 o1) ?_ fun _ _ f => f.elim
  rintro vs s2 ⟨as, H2, ias, f2, o2, h2⟩
  exact ⟨_, _, .cons ia ias, f2, o2, h2⟩
theorem WE.list {es : List PySem.Expr} {pos : Pos} {Φ : V → Hp → Prop} (h : WEs B k F es vars H fun vs H1 => vs.length ≤ sizeLine ∧ ∀ a, H1 a = Option.none → Φ (.ref a) (put H1 a (.list vs))) : WE B k F (.List es pos) vars H Φ := by
  intro A env P s rm i f o
  rw [arm_eval_List]
  refine wpAny_bind (wpAny_standAt (wpAny_bind (wpAny_mono (h A env P s pos rm i f o) ?_ fun _ _ f => f.elim)))
  rintro vs s1 ⟨as, H1, ia, f1, o1, hz, h1⟩
  refine wpAny_newObj_type ?_ (by show vs.toArray.size ≤ sizeLine; simpa [← ia.length] using hz)
  exact ⟨_, _, .ref _, f1.pushH _ _ _, o1.pushH (.list 0 ia) _, h1 _ o1.newH⟩
theorem WE.tup {es : List PySem.Expr} {n : Nat} {pos : Pos} {Φ : V → Hp → Prop} (h : WEs B k F es vars H fun vs H1 => vs.length ≤ sizeLine ∧ ∀ a, H1 a = Option.none → Φ (.ref a) (put H1 a (.tup vs))) : WE B k F (.Tuple es n pos) vars H Φ := by
  intro A env P s rm i f o
  rw [arm_eval_Tuple]
  refine wpAny_bind (wpAny_standAt (wpAny_bind (wpAny_mono (h A env P s pos rm i f o) ?_ fun _ _ f => f.elim)))
  rintro vs s1 ⟨as, H1, ia, f1, o1, hz, h1⟩
  refine wpAny_newObj_type ?_ (by show vs.toArray.size ≤ sizeLine; simpa [← ia.length] using hz)
  exact ⟨_, _, .ref _, f1.pushH _ _ _, o1.pushH (.tup 0 ia) _, h1 _ o1.newH⟩

/-! calls -/
/-- a thing that is called: no object of the heap, or a def of the base, or a lambda -/
inductive Callee (B : Base) (H : Hp) : V → Prop where
  | blt {id : String} : Callee B H (.val (.builtin id))
  | typ {id : String} : Callee B H (.val (.type id))
  | fn {a : Addr} {ob : Obj} {fd : FuncData} : B.obj a = some ob → ob.data = .func fd → Callee B H (.val (.ref a))
  | lam {a : Addr} {ob : Obj} {fd : FuncData} : H a = some (.raw ob) → ob.data = .func fd → Callee B H (.ref a)
def Calls1 (h : Heap) (f : Value) : Prop := (∀ a, f ≠ .ref a) ∨ ∃ a o fd, f = .ref a ∧ h.get? a = some o ∧ o.data = .func fd
theorem Callee.at {v : V} {val : Value} (c : Callee B H v) (i : Is v val) {P : Pr} {s : Shared} (b : B.In P) (o : Ok P H s) : Calls1 s.heap val := by
  cases c with
  | blt => cases i; exact .inl fun _ e => nomatch e
  | typ => cases i; exact .inl fun _ e => nomatch e
  | fn e d => cases i; exact .inr ⟨_, _, _, rfl, b.heap o _ _ e, d⟩
  | lam e d => cases i; exact .inr ⟨_, _, _, rfl, o.raw e, d⟩
theorem callWith_any {M : Model} {A : Around} {E : Value → Shared → Prop} {s : Shared} {pos : Pos} {f : Value} {first : List Value} {args : List (Bool × Sem Value)} {kws : List (Option Str × Sem Value)} {Q : Value → Shared → Prop}
    (hp : args.any (·.1) = false) (hk : kws.any (·.1.isNone) = false)
    (h : wpAny M A (evalArgs f true args kws) (fun a s₁ => Calls1 s₁.heap f ∧ wpAny M A (call f (first ++ a.pos) a.kw) Q E s₁) E s) : wpAny M A (callWith pos f first args kws) Q E s := by
  unfold callWith
  refine wpAny_bind (wpAny_holding (wpAny_mono h (fun a s₁ h₁ => wpAny_bind (wpAny_standAt ?_)) fun _ _ x => x))
  simp only [hp, hk, Bool.or_false]
  have tail : ∀ {t : Sem Value}, wpAny M A t Q E s₁ → wpAny M A (t >>= fun r => holding [r] point >>= fun _ => pure r) Q E s₁ :=
    fun ht => wpAny_bind (wpAny_mono ht (fun r s₂ hr => wpAny_bind (wpAny_holding (wpAny_point (wpAny_pure hr)))) fun _ _ x => x)
  obtain ⟨c, h₁⟩ := h₁
  rcases c with c | ⟨a', o, fd, rfl, ho, hd⟩
  · have e : keeperOf f = pure .machine := by
      cases f with
      | ref a => exact absurd rfl (c a)
      | _ => rfl
    rw [e]
    exact wpAny_bind (wpAny_pure (tail h₁))
  · refine wpAny_bind (m := keeperOf (.ref a')) ?_
    unfold keeperOf
    refine wpAny_bind (wpAny_load ho ?_)
    rw [hd]
    refine wpAny_pure ?_
    dsimp only
    split
    · exact tail h₁
    · exact tail (by unfold callMarked; exact Calls.wpAny_keep h₁)
theorem evalArgs_any {M : Model} {A : Around} {E : Value → Shared → Prop} {s : Shared} {f : Value} {args : List (Bool × Sem Value)} {Q : Args → Shared → Prop} (hp : args.any (·.1) = false)
    (h : wpAny M A (spliced args) (fun vs s₁ => Q ⟨vs, []⟩ s₁) E s) : wpAny M A (evalArgs f true args []) Q E s := by
  cases args with
  | nil =>
    unfold evalArgs
    show wpAny M A (spliced [] >>= _) Q E s
    refine wpAny_bind (wpAny_mono h (fun vs s' h' => ?_) fun _ _ x => x)
    refine wpAny_holding ?_
    exact wpAny_bind (wpAny_pure (wpAny_bind (wpAny_pure (wpAny_pure h'))))
  | cons x rest =>
    obtain ⟨b, t⟩ := x
    have : b = false := by cases b; rfl; simp at hp
    subst this
    exact Calls.evalArgs_plain h
theorem backTo_nostar {es : List PySem.Expr} {env : Env} {pos : Pos} (h : (starEach es env).any (·.1) = false) : (backTo pos (starEach es env)).any (·.1) = false := by
  unfold backTo
  rw [List.any_map]
  exact h
theorem WE.call {f : Str} {p pos : Pos} {es : List PySem.Expr} {Φ : V → Hp → Prop}
    (h : WE B k F (.Name f p) vars H fun fv H1 => WEs B k F es vars H1 fun vs H2 => Callee B H2 fv ∧ ∀ val, Is fv val → WC B k val vs H2 Φ)
    (hp : ∀ env, (starEach es env).any (·.1) = false := by intro; with_unfolding_all rfl) : WE B k F (.Call (.Name f p) es [] pos) vars H Φ := by
  intro A env P s rm i f o
  rw [arm_eval_Call_Name']
  refine wpAny_bind (wpAny_mono (h A env P s rm i f o) ?_ fun _ _ f => f.elim)
  rintro val s1 ⟨v, H1, ia, f1, o1, h1⟩
  refine callWith_any (backTo_nostar (hp env)) rfl (evalArgs_any (backTo_nostar (hp env)) ?_)
  refine wpAny_mono (h1 A env P s1 pos rm i f1 o1) ?_ fun _ _ f => f.elim
  rintro vs s2 ⟨as, H2, ias, f2, o2, c, h2⟩
  exact ⟨c.at ia i o2, WO.fr (h2 _ ia) rm i f2 o2 ias⟩
/-- with one keyword -/
abbrev WCk (B : Base) (k : Nat) (f : Value) (n : Str) (args : List V) (H : Hp) (Φ : V → Hp → Prop) : Prop := WO B k (fun vals => call f (vals.drop 1) [(n, vals.getD 0 .none)]) args H Φ
theorem WE.callk {f n : Str} {p pos kp : Pos} {e : PySem.Expr} {es : List PySem.Expr} {Φ : V → Hp → Prop}
    (h : WE B k F (.Name f p) vars H fun fv H1 => WEs B k F es vars H1 fun vs H2 => WE B k F e vars H2 fun kv H3 => Callee B H3 fv ∧ ∀ val, Is fv val → WCk B k val n (kv :: vs) H3 Φ)
    (hp : ∀ env, (starEach es env).any (·.1) = false := by intro; with_unfolding_all rfl) : WE B k F (.Call (.Name f p) es [⟨some n, e, kp⟩] pos) vars H Φ := by
  intro A env P s rm i f o
  rw [arm_eval_Call_Name']
  refine wpAny_bind (wpAny_mono (h A env P s rm i f o) ?_ fun _ _ f => f.elim)
  rintro val s1 ⟨v, H1, ia, f1, o1, h1⟩
  refine callWith_any (backTo_nostar (hp env)) rfl ?_
  have hh := backTo_nostar (pos := pos) (hp env)
  have key : wpAny B.M A (spliced (backTo pos (starEach es env))) (fun vs s₁ => wpAny B.M A (evalAll [(do let v ← eval e env; standAt pos; pure v : Sem Value)]) (fun ks s₂ => Calls1 s₂.heap val ∧ wpAny B.M A (PySem.call val ([] ++ vs) ([n].zip ks)) (fun val s' => ∃ v H', Is v val ∧ Fm F env vars P H' s' ∧ Ok P H' s' ∧ Φ v H') (fun _ _ => False) s₂) (fun _ _ => False) s₁) (fun _ _ => False) s1 := by
    refine wpAny_mono (h1 A env P s1 pos rm i f1 o1) ?_ fun _ _ f => f.elim
    rintro vs s2 ⟨as, H2, ias, f2, o2, h2⟩
    refine wpAny_evalAll_cons (wpAny_bind (wpAny_mono (h2 A env P s2 rm i f2 o2) ?_ fun _ _ f => f.elim))
    rintro kv s3 ⟨ka, H3, ika, f3, o3, c, h3⟩
    refine wpAny_bind (wpAny_standAt (wpAny_pure (wpAny_evalAll_nil ⟨c.at ia i o3, ?_⟩)))
    exact WO.fr (h3 _ ia) rm i f3 o3 (.cons ika ias)
  cases q : backTo pos (starEach es env) with
  | nil => rw [q] at key; exact evalArgs_kw_nil rfl (by
      unfold spliced at key
      exact fun Γ pp hΓ => key Γ pp hΓ Γ pp hΓ)
  | cons x rest =>
    rw [q] at key hh
    obtain ⟨b, t⟩ := x
    have : b = false := by cases b; rfl; simp at hh
    subst this
    exact evalArgs_kw rfl key
end
end Mine
end
noncomputable section
open PySem PySem.W PyProof.Rows
namespace Mine
theorem Ok.grow {P : Pr} {H : Hp} {s : Shared} (K : Ok P H s) {h' : Heap} (hk : ∀ b o, s.heap.get? b = some o → h'.get? b = some o) (t : Nat) : Ok P H { s with heap := h', toks := t } :=
  ⟨fun a o h => hk _ _ (K.prot a o h), fun a o h => let ⟨x, e, i⟩ := K.objs a o h; ⟨x, hk _ _ e, i⟩, K.dis, K.gens, K.bare, K.os⟩
/-- a list's object, just so -/
theorem Ok.isL {P : Pr} {H : Hp} {s : Shared} (K : Ok P H s) {a : Addr} {xs : List V} (h : H a = some (.list xs)) : ∃ vs n, Are xs vs ∧ IsL s.heap a vs.toArray n := by
  obtain ⟨vs, n, i, e⟩ := K.list h
  exact ⟨vs, n, i, e⟩
theorem Ok.mapL {P : Pr} {H : Hp} {s : Shared} (K : Ok P H s) {a : Addr} {o : O} (h : H a = some o) {vs : List Value} {n : Nat} (e : IsL s.heap a vs.toArray n) (f : Array Value → Array Value) {ys : List V} {us : List Value} (hf : f vs.toArray = us.toArray) (i : Are ys us) (t : Nat) :
    Ok P (put H a (.list ys)) { s with heap := s.heap.update a (Obj.mapSeq f), toks := t } := by
  have u := e.update f
  rw [hf] at u
  exact K.updH h (Heap.SameBut.update ..) u (.list _ i) t
theorem WO.two {B : Base} {k : Nat} {H : Hp} {g : List Value → Sem Value} {a b : V} {Φ : V → Hp → Prop}
    (h : ∀ A P s x y, Room k A → B.In P → Ok P H s → Is a x → Is b y → wpAny B.M A (g [x, y]) (fun val s' => ∃ v H', Is v val ∧ Ok P H' s' ∧ Φ v H') (fun _ _ => False) s) : WO B k g [a, b] H Φ := by
  intro A P s vals r i o ha
  cases ha with
  | cons ha hb => cases hb with
    | cons hb hn => cases hn; exact h A P s _ _ r i o ha hb
theorem WO.one {B : Base} {k : Nat} {H : Hp} {g : List Value → Sem Value} {a : V} {Φ : V → Hp → Prop}
    (h : ∀ A P s x, Room k A → B.In P → Ok P H s → Is a x → wpAny B.M A (g [x]) (fun val s' => ∃ v H', Is v val ∧ Ok P H' s' ∧ Φ v H') (fun _ _ => False) s) : WO B k g [a] H Φ := by
  intro A P s vals r i o ha
  cases ha with
  | cons ha hb => cases hb; exact h A P s _ r i o ha
theorem WO.three {B : Base} {k : Nat} {H : Hp} {g : List Value → Sem Value} {a b c : V} {Φ : V → Hp → Prop}
    (h : ∀ A P s x y z, Room k A → B.In P → Ok P H s → Is a x → Is b y → Is c z → wpAny B.M A (g [x, y, z]) (fun val s' => ∃ v H', Is v val ∧ Ok P H' s' ∧ Φ v H') (fun _ _ => False) s) : WO B k g [a, b, c] H Φ := by
  intro A P s vals r i o ha
  cases ha with
  | cons ha hb => cases hb with
    | cons hb hc => cases hc with
      | cons hc hn => cases hn; exact h A P s _ _ _ r i o ha hb hc
section
variable {B : Base} {k : Nat} {F : FI} {vars : List (Option V)} {H : Hp} {i j : Int} {x y : Str}

/-! ints -/
theorem bin_add {Φ : V → Hp → Prop} (h : Φ (.int (i + j)) H) : WBin B k .Add (.int i) (.int j) H Φ :=
  WO.two fun A P s x y r ib o hx hy => by cases hx; cases hy; exact PySem.P.add_int ⟨_, _, .int _ _, o.toks _, h⟩
theorem bin_sub {Φ : V → Hp → Prop} (h : Φ (.int (i - j)) H) : WBin B k .Sub (.int i) (.int j) H Φ :=
  WO.two fun A P s x y r ib o hx hy => by cases hx; cases hy; exact PySem.P.sub_int ⟨_, _, .int _ _, o.toks _, h⟩
theorem inp_add {Φ : V → Hp → Prop} (h : Φ (.int (i + j)) H) : WInp B k .Add (.int i) (.int j) H Φ :=
  WO.two fun A P s x y r ib o hx hy => by cases hx; cases hy; exact PySem.P.iadd_int ⟨_, _, .int _ _, o.toks _, h⟩
theorem inp_sub {Φ : V → Hp → Prop} (h : Φ (.int (i - j)) H) : WInp B k .Sub (.int i) (.int j) H Φ :=
  WO.two fun A P s x y r ib o hx hy => by cases hx; cases hy; exact PySem.P.isub_int ⟨_, _, .int _ _, o.toks _, h⟩
theorem bin_mul {Φ : V → Hp → Prop} (hm : IntMulOk i j) (h : Φ (.int (i * j)) H) : WBin B k .Mult (.int i) (.int j) H Φ :=
  WO.two fun A P s x y r ib o hx hy => by cases hx; cases hy; exact PySem.P.mul_int ⟨_, _, .int _ _, o.toks _, h⟩ hm
theorem bin_mod {Φ : V → Hp → Prop} (hj : j ≠ 0) (h : Φ (.int (i.fmod j)) H) : WBin B k .Mod (.int i) (.int j) H Φ :=
  WO.two fun A P s x y r ib o hx hy => by cases hx; cases hy; exact mod_int' hj ⟨_, _, .int _ _, o.toks _, h⟩
theorem bin_div {Φ : V → Hp → Prop} (hj : j ≠ 0) (hp : Builtin.divisionGoesByPylong i j = false) (h : Φ (.int (i.fdiv j)) H) : WBin B k .FloorDiv (.int i) (.int j) H Φ :=
  WO.two fun A P s x y r ib o hx hy => by cases hx; cases hy; exact floordiv_int hj ⟨_, _, .int _ _, o.toks _, h⟩ (.inl hp)
theorem bin_pow {Φ : V → Hp → Prop} (hj : 0 ≤ j) (hz : (Builtin.Int.intBits i : Int) * j ≤ 2 ^ 27) (h : Φ (.int (i ^ j.toNat)) H) : WBin B k .Pow (.int i) (.int j) H Φ :=
  WO.two fun A P s x y r ib o hx hy => by cases hx; cases hy; exact pow_int hj hz ⟨_, _, .int _ _, o.toks _, h⟩
theorem cmp_lt {Φ : V → Hp → Prop} (h : Φ (.bool (decide (i < j))) H) : WCmp B k .Lt (.int i) (.int j) H Φ :=
  WO.two fun A P s x y r ib o hx hy => by cases hx; cases hy; exact PySem.P.lt_int ⟨_, _, .bool _, o, h⟩
theorem cmp_gt {Φ : V → Hp → Prop} (h : Φ (.bool (decide (i > j))) H) : WCmp B k .Gt (.int i) (.int j) H Φ :=
  WO.two fun A P s x y r ib o hx hy => by cases hx; cases hy; exact PySem.P.gt_int ⟨_, _, .bool _, o, h⟩
theorem cmp_ge {Φ : V → Hp → Prop} (h : Φ (.bool (decide (i ≥ j))) H) : WCmp B k .GtE (.int i) (.int j) H Φ :=
  WO.two fun A P s x y r ib o hx hy => by cases hx; cases hy; exact PySem.P.ge_int ⟨_, _, .bool _, o, h⟩
theorem beq_dec {α : Type} [DecidableEq α] (a b : α) : (a == b) = decide (a = b) := by cases h : a == b <;> simp_all
theorem bne_dec {α : Type} [DecidableEq α] (a b : α) : (a != b) = decide (a ≠ b) := by by_cases h : a = b <;> simp [h]
theorem cmp_eq {Φ : V → Hp → Prop} (h : Φ (.bool (decide (i = j))) H) : WCmp B k .Eq (.int i) (.int j) H Φ :=
  WO.two fun A P s x y r ib o hx hy => by cases hx; cases hy; exact PySem.P.eq_int ⟨_, _, .bool _, o, by rw [beq_dec]; exact h⟩
theorem cmp_ne {Φ : V → Hp → Prop} (h : Φ (.bool (decide (i ≠ j))) H) : WCmp B k .NotEq (.int i) (.int j) H Φ :=
  WO.two fun A P s x y r ib o hx hy => by cases hx; cases hy; exact PySem.P.ne_int ⟨_, _, .bool _, o, by rw [bne_dec]; exact h⟩
theorem cmp_ltb {p q : Bool} {Φ : V → Hp → Prop} (h : Φ (.bool (!p && q)) H) : WCmp B k .Lt (.bool p) (.bool q) H Φ :=
  WO.two fun A P s x y r ib o hx hy => by cases hx; cases hy; exact lt_bool ⟨_, _, .bool _, o, by cases p <;> cases q <;> exact h⟩
theorem tr_bool {b : Bool} {Φ : Bool → Hp → Prop} (h : Φ b H) : WTr B k (.bool b) H Φ := fun A P s val r ib o is => by
  cases is; exact wpAny_truthy_bool ⟨_, o, h⟩

/-! texts -/
theorem cmp_eqs {Φ : V → Hp → Prop} (h : Φ (.bool (decide (x = y))) H) : WCmp B k .Eq (.str x) (.str y) H Φ :=
  WO.two fun A P s _ _ r ib o hx hy => by cases hx; cases hy; exact PyProof.Rows.eq_str ⟨_, _, .bool _, o, by rw [beq_dec]; exact h⟩
theorem cmp_nes {Φ : V → Hp → Prop} (h : Φ (.bool (decide (x ≠ y))) H) : WCmp B k .NotEq (.str x) (.str y) H Φ :=
  WO.two fun A P s _ _ r ib o hx hy => by cases hx; cases hy; exact PyProof.Rows.ne_str ⟨_, _, .bool _, o, by rw [bne_dec]; exact h⟩
theorem bin_adds {Φ : V → Hp → Prop} (hz : x.length + y.length ≤ sizeLine) (h : Φ (.str (x ++ y)) H) : WBin B k .Add (.str x) (.str y) H Φ :=
  WO.two fun A P s _ _ r ib o hx hy => by cases hx; cases hy; exact PyProof.Rows.add_str (fun t' tk => ⟨_, _, .str _ _, o.toks _, h⟩) hz
theorem cmp_notIn {c : Nat} {Φ : V → Hp → Prop} (h : Φ (.bool (!decide (c ∈ x.cps.toList))) H) : WCmp B k .NotIn (.str ⟨#[c]⟩) (.str x) H Φ :=
  WO.two fun A P s _ _ r ib o hx hy => by cases hx; cases hy; exact PySem.P.notIn_str ⟨_, _, .bool _, o, by rw [StrLaws.found_one]; exact h⟩
theorem call_lens {Φ : V → Hp → Prop} (hz : (x.length : Int) < 2 ^ 63) (h : Φ (.int x.length) H) : WC B k (.builtin "len") [.str x] H Φ :=
  WO.one fun A P s _ r ib o hx => by cases hx; exact PyProof.Rows.len_str (by omega) ⟨_, _, .int _ _, o.toks _, h⟩

/-! is None -/
theorem cmp_is {a : V} {b : Bool} {Φ : V → Hp → Prop} (hb : ∀ v, Is a v → (v == Value.none) = b) (h : Φ (.bool b) H) : WCmp B k .Is a .none H Φ :=
  WO.two fun A P s v w r ib o hx hy => by
    cases hy
    have e := hb v hx
    refine PyProof.Rows.is_none_gen (v := v) ⟨_, _, .bool _, o, ?_⟩
    show Φ (.bool (v == Value.none)) H
    rw [e]; exact h

/-! lists -/
theorem call_len {a : Addr} {xs : List V} {Φ : V → Hp → Prop} (hl : H a = some (.list xs)) (hz : (xs.length : Int) < 2 ^ 63) (h : Φ (.int xs.length) H) : WC B k (.builtin "len") [.ref a] H Φ :=
  WO.one fun A P s _ r ib o hx => by
    cases hx
    obtain ⟨vs, n, i, e⟩ := o.isL hl
    have hn : vs.toArray.size = xs.length := by simp [i.length]
    exact Calls.call_len_list e.isList (by rw [hn]; exact hz) ⟨_, _, .int _ _, o.toks _, by rw [hn]; exact h⟩
theorem call_append {a : Addr} {v : V} {xs : List V} {Φ : V → Hp → Prop} (hl : H a = some (.list xs)) (hz : xs.length ≤ sizeLine) (h : Φ .none (put H a (.list (xs ++ [v])))) : WC B k (.builtin "list.append") [.ref a, v] H Φ :=
  WO.two fun A P s _ w r ib o hx hy => by
    cases hx
    obtain ⟨vs, n, i, e⟩ := o.isL hl
    refine call_meets F.slot_list_append ⟨_, e, rfl⟩ F.entry_list_append (F.args_list_append_2 _ _) (list_append a vs.toArray n w (by simpa [i.length] using hz)) ⟨e, ?_⟩
    exact ⟨_, _, .none, o.mapL hl e _ (us := vs ++ [w]) (by simp) (i.append (.cons hy .nil)) _, h⟩
theorem call_pop {a : Addr} {v : V} {xs : List V} {Φ : V → Hp → Prop} (hl : H a = some (.list (xs ++ [v]))) (hz : xs.length < sizeLine) (h : Φ v (put H a (.list xs))) : WC B k (.builtin "list.pop") [.ref a] H Φ :=
  WO.one fun A P s _ r ib o hx => by
    cases hx
    obtain ⟨vs, n, i, e⟩ := o.isL hl
    have hl' : vs.length = xs.length + 1 := by rw [← i.length]; simp
    obtain ⟨w, hw, iw⟩ := i.get (i := xs.length) (x := v) (by simp)
    have i' : Are xs (vs.take xs.length) := by have := i.take xs.length; simpa using this
    refine call_meets F.slot_list_pop ⟨_, e, rfl⟩ F.entry_list_pop (F.args_list_pop_1 _) (MeetsSeq.list_pop_last a vs.toArray n w (by simpa [hl'] using (List.getElem?_eq_some_iff.mp hw).2) (by simp [hl']; omega)) ⟨e, ?_⟩
    refine ⟨_, _, iw, o.mapL hl e _ (us := vs.take xs.length) ?_ i' _, h⟩
    simp only [List.size_toArray, hl', Nat.add_sub_cancel, Array.eraseIdxIfInBounds, Nat.lt_succ_self, dif_pos]
    apply Array.ext'
    simp [List.eraseIdx_eq_take_drop_succ, List.drop_of_length_le (show vs.length ≤ xs.length + 1 by omega)]
end
end Mine
end
noncomputable section
open PySem PySem.W PyProof.Rows
namespace Mine
/-! stores into names -/
inductive SetAt : List Str → List (Option V) → Str → V → List (Option V) → Prop where
  | head {x : Str} {ns : List Str} {o : Option V} {v : V} {vs : List (Option V)} : SetAt (x :: ns) (o :: vs) x v (some v :: vs)
  | tail {n x : Str} {ns : List Str} {o : Option V} {v : V} {vs us : List (Option V)} : SetAt ns vs x v us → SetAt (n :: ns) (o :: vs) x v (o :: us)
theorem SetAt.get {ns : List Str} {vs us : List (Option V)} {x : Str} {v : V} (h : SetAt ns vs x v us) : ∃ i : Nat, ns[i]? = some x ∧ us = vs.set i (some v) := by
  induction h with
  | head => exact ⟨0, rfl, rfl⟩
  | tail _ ih => obtain ⟨i, a, b⟩ := ih; exact ⟨i + 1, a, by rw [b]; rfl⟩
section
variable {B : Base} {k : Nat} {F : FI} {env : Env} {vars us : List (Option V)} {P : Pr} {H : Hp} {s : Shared} {x : Str} {v : V} {val : Value}
theorem nodup_get {α : Type} {l : List α} (h : l.Nodup) {i j : Nat} {x : α} (a : l[i]? = some x) (b : l[j]? = some x) : i = j := by
  obtain ⟨hi, ei⟩ := List.getElem?_eq_some_iff.mp a
  obtain ⟨hj, ej⟩ := List.getElem?_eq_some_iff.mp b
  exact (List.getElem_inj h).mp (ei.trans ej.symm)
theorem Fm.storeLoc {M : Model} {A : Around} {Q : Unit → Shared → Prop} {E : Value → Shared → Prop} (f : Fm F env vars P H s) (o : Ok P H s) (h : SetAt F.names vars x v us) (i : Is v val)
    (q : ∀ h' t, Fm F env us P H { s with heap := h', toks := t } → Ok P H { s with heap := h', toks := t } → Heap.SameBut env.locals s.heap h' → Q () { s with heap := h', toks := t }) : wpAny M A (storeName env x val) Q E s := by
  obtain ⟨j, hj, rfl⟩ := h.get
  obtain ⟨m, hm, hl⟩ := f.ns
  refine wpAny_storeName_local (f.isLoc hj) hm (fun h' hn hs => ?_) (by rw [f.fn]; rfl)
  refine q _ _ ⟨f.sc, f.kind, f.glob, f.blt, f.nd, f.loc, f.cel, f.locP, f.locH, ⟨_, hn, fun n y w hy hw => ?_⟩, f.cells, f.coro⟩ (o.updN f.locP f.locH hs _) hs
  by_cases e : n = j
  · subst e
    rw [hj] at hy; cases hy
    have hlen : n < vars.length := by
      rcases Nat.lt_or_ge n vars.length with h | h
      · exact h
      · rw [List.getElem?_eq_none (by simpa using h)] at hw; cases hw
    rw [List.getElem?_set_self hlen] at hw; cases hw
    exact ⟨val, if_pos rfl, i⟩
  · rw [List.getElem?_set_ne (Ne.symm e)] at hw
    have : y ≠ x := fun e' => e (nodup_get f.nd (e' ▸ hy) hj)
    obtain ⟨u, hu, iu⟩ := hl n y w hy hw
    exact ⟨u, (if_neg this).trans hu, iu⟩
theorem Fm.storeCel {M : Model} {A : Around} {Q : Unit → Shared → Prop} {E : Value → Shared → Prop} {c : Addr} {w : Option V} (f : Fm F env vars P H s) (o : Ok P H s) (hk : F.sc.names.lookup x = some .cell) (h : (x, c) ∈ F.cells) (hc : H c = some (.cell w)) (i : Is v val)
    (q : ∀ h', Fm F env vars P (put H c (.cell (some v))) { s with heap := h' } → Ok P (put H c (.cell (some v))) { s with heap := h' } → Q () { s with heap := h' }) : wpAny M A (storeName env x val) Q E s := by
  have hl : env.kindOf x = some .cell := by unfold Env.kindOf; rw [f.sc]; exact hk
  obtain ⟨cv, ho⟩ := o.anyCell hc
  unfold storeName
  simp only [hl, f.fn]
  refine wpAny_bind (wpAny_cellOf (f.cells _ _ h) ?_)
  unfold cellSet
  refine wpAny_bind (wpAny_load ho ?_)
  refine wpAny_update ho (q _ (f.updH hc (Heap.SameBut.update ..) _) (o.updH hc (Heap.SameBut.update ..) (Heap.get?_update_self _ ho rfl) (.cell i) _))
end
/-- a store into a name -/
def WSt (B : Base) (k : Nat) (F : FI) (x : Str) (v : V) (vars : List (Option V)) (H : Hp) (Φ : List (Option V) → Hp → Prop) : Prop :=
  ∀ A env P s val, Room k A → B.In P → Fm F env vars P H s → Ok P H s → Is v val →
    wpAny B.M A (storeName env x val) (fun _ s' => ∃ vars' H', Fm F env vars' P H' s' ∧ Ok P H' s' ∧ Φ vars' H') (fun _ _ => False) s
section
variable {B : Base} {k : Nat} {F : FI} {vars us : List (Option V)} {H : Hp}
theorem WSt.loc {x : Str} {v : V} {Φ : List (Option V) → Hp → Prop} (h : SetAt F.names vars x v us) (q : Φ us H) : WSt B k F x v vars H Φ :=
  fun _ _ _ _ _ _ _ f o i => f.storeLoc o h i fun _ _ f' o' _ => ⟨_, _, f', o', q⟩
theorem WSt.cel {x : Str} {v : V} {c : Addr} {w : Option V} {Φ : List (Option V) → Hp → Prop} (h : (x, c) ∈ F.cells) (hc : H c = some (.cell w)) (q : Φ vars (put H c (.cell (some v))))
    (hk : F.sc.names.lookup x = some .cell := by decide +kernel) : WSt B k F x v vars H Φ :=
  fun _ _ _ _ _ _ _ f o i => f.storeCel o hk h hc i fun _ f' o' => ⟨_, _, f', o', q⟩
theorem WSt.mono {x : Str} {v : V} {Φ Ψ : List (Option V) → Hp → Prop} (h : WSt B k F x v vars H Φ) (g : ∀ v H', Φ v H' → Ψ v H') : WSt B k F x v vars H Ψ :=
  fun A env P s val r i f o is => noE (h A env P s val r i f o is) fun _ _ ⟨v, H', a, b, c⟩ => ⟨v, H', a, b, g _ _ c⟩

/-! targets -/
theorem WA.name {x : Str} {p : Pos} {v : V} {Φ : List (Option V) → Hp → Prop} (h : WSt B k F x v vars H Φ) : WA B k F (.Name x p) v vars H Φ :=
  fun A env P s val r i f o is => wpAny_assign_Name (h A env P s val r i f o is)
/-- a row of targets, with their values -/
def WAs (B : Base) (k : Nat) (F : FI) (ts : List PySem.Expr) (vs : List V) (vars : List (Option V)) (H : Hp) (Φ : List (Option V) → Hp → Prop) : Prop :=
  ∀ A env P s vals, Room k A → B.In P → Fm F env vars P H s → Ok P H s → Are vs vals →
    wpAny B.M A (assignInOrder ((assignEach ts env).map (·.2)) vals) (fun _ s' => ∃ vars' H', Fm F env vars' P H' s' ∧ Ok P H' s' ∧ Φ vars' H') (fun _ _ => False) s
theorem WAs.nil {Φ : List (Option V) → Hp → Prop} (h : Φ vars H) : WAs B k F [] [] vars H Φ := by
  intro A env P s vals r i f o is
  cases is
  exact wpAny_pure ⟨_, _, f, o, h⟩
theorem WAs.cons {t : PySem.Expr} {ts : List PySem.Expr} {v : V} {vs : List V} {Φ : List (Option V) → Hp → Prop} (h : WA B k F t v vars H fun vars1 H1 => WAs B k F ts vs vars1 H1 Φ)
    (ht : ∀ env, assignEach (t :: ts) env = (false, assign t env) :: assignEach ts env := by intro; with_unfolding_all rfl) : WAs B k F (t :: ts) (v :: vs) vars H Φ := by
  intro A env P s vals r i f o is
  cases is with
  | @cons _ val _ vals is iss =>
  rw [ht]
  show wpAny _ _ (do holding vals (assign t env val); assignInOrder ((assignEach ts env).map (·.2)) vals) _ _ _
  refine wpAny_bind (wpAny_holding (wpAny_mono (h A env P s val r i f o is) ?_ fun _ _ f => f.elim))
  rintro _ s1 ⟨v1, H1, f1, o1, h1⟩
  exact h1 A env P s1 vals r i f1 o1 iss
theorem WA.tup {ts : List PySem.Expr} {n : Nat} {p : Pos} {a : Addr} {vs : List V} {Φ : List (Option V) → Hp → Prop} (hl : H a = some (.tup vs)) (h : WAs B k F ts vs vars H Φ)
    (hn : ∀ env, (assignEach ts env).length = vs.length := by intro; with_unfolding_all rfl) (hs : ∀ env, (assignEach ts env).findIdx? (·.1) = none := by intro; with_unfolding_all rfl) : WA B k F (.Tuple ts n p) (.ref a) vars H Φ := by
  intro A env P s val r i f o is
  cases is
  obtain ⟨us, m, ia, e⟩ := o.tup hl
  refine wpAny_assign_Tuple (items := us.toArray) r.1 ⟨_, e, rfl, m, rfl⟩ (by rw [hn]; simp [ia.length]) (hs env) fun h' hx => ?_
  have hk : ∀ b o', s.heap.get? b = some o' → h'.get? b = some o' := fun b o' e' => hx b o' (Nat.ne_of_lt (Heap.lt_size e')) e'
  have f' : Fm F env vars P H { s with heap := h' } := f.mono (fun o e => hk _ _ e) (fun _ => f.locH) fun _ => f.locP
  have := h A env P { s with heap := h' } us r i f' (o.grow hk s.toks) ia
  exact this
/-- a value's item set -/
def WSet (B : Base) (k : Nat) (a i v : V) (H : Hp) (Φ : Hp → Prop) : Prop :=
  ∀ A P s x y z, Room k A → B.In P → Ok P H s → Is a x → Is i y → Is v z → wpAny B.M A (setItem x y z) (fun _ s' => ∃ H', Ok P H' s' ∧ Φ H') (fun _ _ => False) s
theorem WA.sub {oe ie : PySem.Expr} {p : Pos} {v : V} {Φ : List (Option V) → Hp → Prop} (h : WE B k F oe vars H fun a H1 => WE B k F ie vars H1 fun i H2 => WSet B k a i v H2 (Φ vars)) :
    WA B k F (.Subscript oe ie p) v vars H Φ := by
  intro A env P s val r ib f o is
  rw [arm_assign_Subscript]
  refine wpAny_bind (wpAny_holding (wpAny_mono (h A env P s r ib f o) ?_ fun _ _ f => f.elim))
  rintro x s1 ⟨a, H1, ia, f1, o1, h1⟩
  refine wpAny_bind (wpAny_holding (wpAny_mono (h1 A env P s1 r ib f1 o1) ?_ fun _ _ f => f.elim))
  rintro y s2 ⟨i, H2, ii, f2, o2, h2⟩
  refine wpAny_bind (wpAny_standAt (wpAny_bind (wpAny_holding ?_)))
  obtain ⟨P', hP, _, _, o', back⟩ := f2.guard o2
  refine wpAny_mono (h2 A P' s2 x y val r (fun a o e => hP a o (ib a o e)) o' ia ii is) ?_ fun _ _ f => f.elim
  rintro _ s3 ⟨H3, o3, h3⟩
  intro Γ p hΓ
  rw [Sem.wp_release]
  exact ⟨_, _, (back _ _ o3).1, (back _ _ o3).2, h3⟩

/-! statements -/
theorem WSs.nil {Φ : Fl → List (Option V) → Hp → Prop} (h : Φ .next vars H) : WSs B k F [] vars H Φ := fun _ _ _ _ _ _ f o => wpAny_execs_nil ⟨_, _, _, .next, f, o, h⟩
/-- behind a statement -/
def thenDo (B : Base) (k : Nat) (F : FI) (rest : List Stmt) (Φ : Fl → List (Option V) → Hp → Prop) : Fl → List (Option V) → Hp → Prop
  | .next => fun vars H => WSs B k F rest vars H Φ
  | f => Φ f
theorem WSs.cons {st : Stmt} {rest : List Stmt} {Φ : Fl → List (Option V) → Hp → Prop} (h : WS B k F st vars H (thenDo B k F rest Φ)) : WSs B k F (st :: rest) vars H Φ := by
  intro A env P s r i f o
  refine wpAny_execs_cons (wpAny_mono (h A env P s r i f o) ?_ fun _ _ f => f.elim)
  rintro fl s1 ⟨g, v1, H1, ig, f1, o1, h1⟩
  cases ig with
  | next => exact h1 A env P s1 r i f1 o1
  | brk => exact ⟨_, _, _, .brk, f1, o1, h1⟩
  | cont => exact ⟨_, _, _, .cont, f1, o1, h1⟩
  | ret i => exact ⟨_, _, _, .ret i, f1, o1, h1⟩
theorem WSs.assign {x : Str} {p pos : Pos} {e : PySem.Expr} {rest : List Stmt} {Φ : Fl → List (Option V) → Hp → Prop} (h : WE B k F e vars H fun v H1 => WSt B k F x v vars H1 fun v1 H2 => WSs B k F rest v1 H2 Φ)
    (hs : ∀ env : Env, env.scope = F.sc → swapsWith e (some (.Name x p)) pos.line env = pure false := by intro _ _; with_unfolding_all rfl) : WSs B k F (.Assign [.Name x p] e pos :: rest) vars H Φ := by
  refine WSs.cons fun A env P s r i f o => ?_
  refine wpAny_Assign_Name (wpAny_mono (h A env P s r i f o) ?_ fun _ _ f => f.elim) (hs env f.sc)
  rintro val s1 ⟨v, H1, ia, f1, o1, h1⟩
  refine wpAny_mono (h1 A env P s1 val r i f1 o1 ia) ?_ fun _ _ f => f.elim
  rintro _ s2 ⟨v2, H2, f2, o2, h2⟩
  exact ⟨_, _, _, .next, f2, o2, h2⟩
/-- one target that is no name -/
theorem WSs.assignT {t : PySem.Expr} {pos : Pos} {e : PySem.Expr} {rest : List Stmt} {Φ : Fl → List (Option V) → Hp → Prop} (h : WE B k F e vars H fun v H1 => WA B k F t v vars H1 fun v1 H2 => WSs B k F rest v1 H2 Φ)
    (hs : ∀ env : Env, swapsWith e (some t) pos.line env = pure false := by intro _; with_unfolding_all rfl) (hw : ∀ env : Env, env.scope = F.sc → swappedStores [t] e env = pure none := by intro _ _; with_unfolding_all rfl)
    (ht : ∀ env, assignEach [t] env = [(false, PySem.assign t env)] := by intro; with_unfolding_all rfl) : WSs B k F (.Assign [t] e pos :: rest) vars H Φ := by
  refine WSs.cons fun A env P s r i f o => ?_
  rw [arm_exec_Assign]
  refine wpAny_bind (wpAny_standAt (wpAny_bind ?_))
  show wpAny _ _ (swapsWith e (some t) pos.line env) _ _ _
  rw [hs]
  refine wpAny_pure (wpAny_bind (wpAny_mono (h A env P s r i f o) ?_ fun _ _ f => f.elim))
  rintro val s1 ⟨v, H1, ia, f1, o1, h1⟩
  refine wpAny_bind ?_
  rw [hw env f.sc]
  refine wpAny_pure ?_
  show wpAny _ _ (do assignAll val ((assignEach [t] env).map (·.2)); pure Flow.next) _ _ _
  rw [ht]
  refine wpAny_bind (wpAny_mono (h1 A env P s1 val r i f1 o1 ia) ?_ fun _ _ f => f.elim)
  rintro _ s2 ⟨v2, H2, f2, o2, h2⟩
  exact wpAny_pure ⟨_, _, _, .next, f2, o2, h2⟩
theorem WSs.aug {x : Str} {op : Operator} {p pos : Pos} {e : PySem.Expr} {rest : List Stmt} {a : V} {Φ : Fl → List (Option V) → Hp → Prop} (ha : At F.names vars x a)
    (h : WE B k F e vars H fun b H2 => WInp B k op a b H2 fun v H3 => WSt B k F x v vars H3 fun v1 H4 => WSs B k F rest v1 H4 Φ) : WSs B k F (.AugAssign (.Name x p) op e pos :: rest) vars H Φ := by
  refine WSs.cons fun A env P s r i f o => ?_
  obtain ⟨j, hn, hv⟩ := ha.get
  obtain ⟨m, hm, hl⟩ := f.ns
  obtain ⟨val, ev, ia⟩ := hl j x a hn hv
  refine wpAny_AugAssign_Name (wpAny_loadName_local f.fn (f.isLoc hn) hm ev ?_)
  refine wpAny_mono (h A env P s r i f o) ?_ fun _ _ f => f.elim
  rintro x2 s2 ⟨b, H2, ib, f2, o2, h2⟩
  refine wpAny_mono (WO.fr h2 r i f2 o2 (.cons ia (.cons ib .nil))) ?_ fun _ _ f => f.elim
  rintro x3 s3 ⟨v, H3, iv, f3, o3, h3⟩
  refine wpAny_mono (h3 A env P s3 x3 r i f3 o3 iv) ?_ fun _ _ f => f.elim
  rintro _ s4 ⟨v4, H4, f4, o4, h4⟩
  exact ⟨_, _, _, .next, f4, o4, h4⟩
theorem WSs.ret {e : PySem.Expr} {pos : Pos} {rest : List Stmt} {Φ : Fl → List (Option V) → Hp → Prop} (h : WE B k F e vars H fun v H1 => Φ (.ret v) vars H1) : WSs B k F (.Return (some e) pos :: rest) vars H Φ := by
  refine WSs.cons fun A env P s r i f o => ?_
  refine wpAny_Return_some (wpAny_mono (h A env P s r i f o) ?_ fun _ _ f => f.elim)
  rintro val s1 ⟨v, H1, ia, f1, o1, h1⟩
  exact ⟨_, _, _, .ret ia, f1, o1, h1⟩
theorem WSs.ife {c : PySem.Expr} {b1 b2 rest : List Stmt} {pos : Pos} {Φ : Fl → List (Option V) → Hp → Prop}
    (h : WT B k F c vars H fun b H1 => (b = true → WSs B k F b1 vars H1 (thenDo B k F rest Φ)) ∧ (b = false → WSs B k F b2 vars H1 (thenDo B k F rest Φ))) : WSs B k F (.If c b1 b2 pos :: rest) vars H Φ := by
  refine WSs.cons fun A env P s r i f o => ?_
  refine wpAny_If (wpAny_mono (h A env P s r i f o) ?_ fun _ _ f => f.elim)
  rintro b s1 ⟨H1, f1, o1, h1⟩
  cases b with
  | true => exact h1.1 rfl A env P s1 r i f1 o1
  | false => exact h1.2 rfl A env P s1 r i f1 o1
theorem WSs.expr {e : PySem.Expr} {pos : Pos} {rest : List Stmt} {Φ : Fl → List (Option V) → Hp → Prop} (h : WE B k F e vars H fun v H1 => v = .none ∧ WSs B k F rest vars H1 Φ)
    (hs : ∀ env, swapsWith e none pos.line env = pure false := by intro; with_unfolding_all rfl) : WSs B k F (.Expr e pos :: rest) vars H Φ := by
  refine WSs.cons fun A env P s r i f o => ?_
  refine wpAny_Expr (wpAny_mono (h A env P s r i f o) ?_ fun _ _ f => f.elim) (by unfold interactive; rw [f.fn]; rfl) (hs env)
  rintro val s1 ⟨v, H1, ia, f1, o1, rfl, h1⟩
  cases ia
  exact ⟨_, _, _, .next, f1, o1, h1⟩
end
end Mine
end
noncomputable section
open PySem PySem.W PyProof.Rows
namespace Mine
/-! a def's frame -/
def celNames (names : List (Str × NameKind)) : List Str := (names.filter (·.2 == .cell)).map (·.1)
def putCells (H : Hp) : List Addr → Hp
  | [] => H
  | c :: cs => putCells (put H c (.cell none)) cs
theorem cells_laid {P : Pr} : ∀ (names : List (Str × NameKind)) (acc : List (Str × Addr)) (H : Hp) (s : Shared), Ok P H s →
    ∃ cs : List Addr, cs.length = (celNames names).length ∧ cellsFrom s.heap.objs.size names acc = ((celNames names).zip cs).reverse ++ acc ∧ Ok P (putCells H cs) { s with heap := pushCells s.heap names } ∧ cs.Nodup ∧ (∀ c ∈ cs, H c = none ∧ s.heap.objs.size ≤ c) ∧ (∀ a, (∀ c ∈ cs, a ≠ c) → putCells H cs a = H a)
  | [], acc, H, s, o => ⟨[], rfl, rfl, o, .nil, fun _ h => (nomatch h), fun _ _ => rfl⟩
  | (n, kd) :: r, acc, H, s, o => by
    unfold cellsFrom pushCells celNames
    by_cases h : (kd == NameKind.cell) = true
    · rw [if_pos h, if_pos h, List.filter_cons, if_pos h]
      have o1 := o.pushH (o := .cell none) .cell0 s.toks
      obtain ⟨cs, h1, h2, h3, h4, h5, h6⟩ := cells_laid r ((n, s.heap.objs.size) :: acc) _ _ o1
      have hz : ({ s with heap := s.heap.push { cls := .type "cell", data := .cell none } } : Shared).heap.objs.size = s.heap.objs.size + 1 := Heap.size_push ..
      rw [hz] at h2 h5
      refine ⟨s.heap.objs.size :: cs, by simp [h1, celNames], ?_, h3, List.nodup_cons.mpr ⟨fun hm => by have := (h5 _ hm).2; omega, h4⟩, fun c hc => ?_, fun a ha => ?_⟩
      · rw [h2]; simp [celNames]
      · rcases List.mem_cons.mp hc with rfl | hc
        · exact ⟨o.newH, Nat.le_refl _⟩
        · obtain ⟨a, b⟩ := h5 c hc
          have hne : c ≠ s.heap.objs.size := Nat.ne_of_gt b
          rw [put_ne _ _ hne] at a
          exact ⟨a, by omega⟩
      · show putCells (put H s.heap.objs.size (.cell none)) cs a = H a
        rw [h6 a fun c hc => ha c (List.mem_cons_of_mem _ hc), put_ne _ _ (ha _ List.mem_cons_self)]
    · rw [if_neg h, if_neg h, List.filter_cons, if_neg h]
      exact cells_laid r acc H s o
theorem lookup_nodup {β : Type} : ∀ {l : List (Str × β)}, (l.map (·.1)).Nodup → ∀ {x : Str} {c : β}, (x, c) ∈ l → l.lookup x = some c
  | (k, v) :: r, h, x, c, hm => by
    rw [List.map_cons, List.nodup_cons] at h
    rcases List.mem_cons.mp hm with e | hm
    · cases e; rw [List.lookup_cons, beq_self_eq_true]
    · rw [List.lookup_cons]
      have : (x == k) = false := by
        cases q : x == k with
        | false => rfl
        | true => exact absurd (List.mem_map.mpr ⟨_, hm, eq_of_beq q⟩) h.1
      rw [this]
      exact lookup_nodup h.2 hm
theorem lookup_rev {β : Type} {l acc : List (Str × β)} (h : (l.map (·.1)).Nodup) {x : Str} {c : β} (hm : (x, c) ∈ l) : (l.reverse ++ acc).lookup x = some c := by
  have h' : (l.reverse.map (·.1)).Nodup := by
    rw [List.map_reverse]
    exact List.pairwise_reverse.mpr (h.imp fun hab => Ne.symm hab)
  rw [List.lookup_append, lookup_nodup h' (List.mem_reverse.mpr hm)]; rfl
theorem zip_keys {α β : Type} : ∀ {l : List α} {m : List β}, m.length = l.length → (l.zip m).map (·.1) = l
  | [], _, _ => rfl
  | a :: l, b :: m, h => by simp [zip_keys (l := l) (m := m) (by simpa using h)]
theorem fresh_ns (s : Shared) (cls : Value) (names : List (Str × NameKind)) : (pushCells (s.heap.push { cls, data := .dict #[] }) names).Ns s.heap.objs.size fun _ => none :=
  (Heap.Ns.new s.heap cls).keeps (pushCells_keeps _ _)

/-- what an environment's making leaves -/
theorem env_new {M : Model} {A : Around} {E : Value → Shared → Prop} {P : Pr} {H : Hp} {s : Shared} {sc : Scope} {cl fcs : List (Str × Addr)} {names : List Str} {vs : List (Option V)} {binds : List (Str × Value)} {qual : Str} {func : Option Addr} {code : Value} {around : Option Env} {Q : Env → Shared → Prop}
    (o : Ok P H s) (hk : sc.kind = .function) (hco : sc.isCoroutine = false) (nd : names.Nodup) (lo : locOk sc names = true) (hcel : celOk sc ((celNames sc.names) ++ fcs.map (·.1)) = true) (hcn : (celNames sc.names).Nodup) (hv : vs.all (·.isNone) = true)
    (hcl : ∀ x c, (x, c) ∈ fcs → cl.lookup x = some c) (hdis : ∀ x ∈ celNames sc.names, x ∉ fcs.map (·.1)) (hbl : ∀ e, around = some e → e.builtins = builtinsNs)
    (h : ∀ (cs : List Addr) (env : Env) s', cs.length = (celNames sc.names).length → cs.Nodup → (∀ c ∈ cs, H c = none) → (∀ a, (∀ c ∈ cs, a ≠ c) → putCells H cs a = H a) → env.scope = sc →
      (env.locals = s.heap.objs.size ∧ ∀ b o, s.heap.get? b = some o → s'.heap.get? b = some o) →
      Fm ⟨sc, names, (celNames sc.names).zip cs ++ fcs⟩ env vs P (putCells H cs) s' → Ok P (putCells H cs) s' →
      wpAny M A (forIn binds PUnit.unit (fun p u => do storeName env p.1 p.2; pure (.yield u))) (fun _ s'' => Q env s'') E s') :
    wpAny M A (newFunctionEnv sc mainGlobals cl binds qual func code around builtinsNs) Q E s := by
  have main : ∀ (cls : Value) (mk : List (Str × Addr) → Env), (∀ c, (mk c).scope = sc ∧ (mk c).locals = s.heap.objs.size ∧ (mk c).globals = mainGlobals ∧ (mk c).builtins = builtinsNs ∧ (mk c).cells = c) →
      wpAny M A (do
        let mut cells := cl
        for (name, kind) in sc.names do
          if kind == .cell then cells := (name, ← alloc { cls := .type "cell", data := .cell none }) :: cells
        let env := mk cells
        for (name, v) in binds do storeName env name v
        return env) Q E { s with heap := s.heap.push { cls, data := .dict #[] } } := by
    intro cls mk hmk
    refine wpAny_bind (wpAny_layCells _ (fun name kind cells => by cases hkc : kind == NameKind.cell <;> simp [hkc]) _ _ _ _ ?_)
    have o1 := o.push { cls, data := .dict #[] } s.toks
    obtain ⟨cs, h1, h2, h3, h4, h5, h6⟩ := cells_laid sc.names cl _ _ o1
    have hz : ({ s with heap := s.heap.push { cls, data := .dict #[] } } : Shared).heap.objs.size = s.heap.objs.size + 1 := Heap.size_push ..
    rw [hz] at h5
    obtain ⟨e1, e2, e3, e4, e5⟩ := hmk (cellsFrom ({ s with heap := s.heap.push { cls, data := .dict #[] } } : Shared).heap.objs.size sc.names cl)
    have hcs : ∀ c ∈ cs, s.heap.objs.size ≠ c := fun c hc => by have := (h5 c hc).2; omega
    have fm : Fm ⟨sc, names, (celNames sc.names).zip cs ++ fcs⟩ (mk (cellsFrom ({ s with heap := s.heap.push { cls, data := .dict #[] } } : Shared).heap.objs.size sc.names cl)) vs P (putCells H cs)
        { s with heap := pushCells (s.heap.push { cls, data := .dict #[] }) sc.names } := by
      refine ⟨e1, hk, e3, e4, nd, lo, ?_, ?_, ?_, ⟨fun _ => none, ?_, fun i x v hx hw => ?_⟩, fun x c hm => ?_, by rw [e1]; exact hco⟩
      · rw [List.map_append, zip_keys h1]; exact hcel
      · rw [e2]; exact o.newP
      · rw [e2, h6 _ hcs]; exact o.newH
      · rw [e2]; exact fresh_ns s cls sc.names
      · have := List.all_eq_true.mp hv _ (List.mem_of_getElem? hw); cases this
      · rw [e5, h2]
        rcases List.mem_append.mp hm with hm | hm
        · exact lookup_rev (by rw [zip_keys h1]; exact hcn) hm
        · have hno : (((celNames sc.names).zip cs).reverse).lookup x = none := by
            rw [List.lookup_eq_none_iff]
            intro p hp
            have hp' := List.mem_reverse.mp hp
            have hx : p.1 ∈ celNames sc.names := by rw [← zip_keys h1]; exact List.mem_map.mpr ⟨_, hp', rfl⟩
            exact bne_iff_ne.mpr fun e => absurd (List.mem_map.mpr ⟨_, hm, e⟩) (hdis _ hx)
          rw [List.lookup_append, hno]
          exact hcl x c hm
    have := h cs _ _ h1 h4 (fun c hc => (h5 c hc).1) h6 e1 ⟨e2, fun b o' e => pushCells_keeps _ _ b o' (Heap.get?_push_of_some _ e)⟩ fm h3
    refine wpAny_bind (wpAny_mono this (fun _ s'' q => wpAny_pure q) fun _ _ e => e)
  cases around with
  | none =>
    simp only [newFunctionEnv, Option.isSome_none, Bool.false_eq_true, if_false]
    refine wpAny_bind (wpAny_alloc ?_)
    exact main (.type "frame") (fun cells => { scope := sc, locals := s.heap.objs.size, globals := mainGlobals, cells, qual, func, code, frame := some s.heap.objs.size, builtins := builtinsNs }) fun c => ⟨rfl, rfl, rfl, rfl, rfl⟩
  | some outer =>
    simp only [newFunctionEnv, Option.isSome_some, if_true]
    refine wpAny_bind (wpAny_alloc ?_)
    exact main (.type "dict") (fun cells => { scope := sc, locals := s.heap.objs.size, globals := mainGlobals, cells, qual, func, code := outer.code, frame := outer.frame, builtins := outer.builtins }) fun c => ⟨rfl, rfl, rfl, hbl outer rfl, rfl⟩

/-! the parameters -/
inductive BAre : List (Str × V) → List (Str × Value) → Prop where
  | nil : BAre [] []
  | cons {x : Str} {v : V} {val : Value} {bs : List (Str × V)} {vs : List (Str × Value)} : Is v val → BAre bs vs → BAre ((x, v) :: bs) ((x, val) :: vs)
def WBs (B : Base) (k : Nat) (F : FI) : List (Str × V) → List (Option V) → Hp → (List (Option V) → Hp → Prop) → Prop
  | [], vars, H, Φ => Φ vars H
  | (x, v) :: r, vars, H, Φ => WSt B k F x v vars H fun vars1 H1 => WBs B k F r vars1 H1 Φ
theorem WBs.run {B : Base} {k : Nat} {F : FI} {A : Around} {env : Env} {P : Pr} (r : Room k A) (ib : B.In P) : ∀ {bs : List (Str × V)} {vs : List (Str × Value)} {vars : List (Option V)} {H : Hp} {s : Shared} {Φ : List (Option V) → Hp → Prop},
    BAre bs vs → Fm F env vars P H s → Ok P H s → WBs B k F bs vars H Φ →
    wpAny B.M A (forIn vs PUnit.unit (fun p u => do storeName env p.1 p.2; pure (.yield u))) (fun _ s' => ∃ vars' H', Fm F env vars' P H' s' ∧ Ok P H' s' ∧ Φ vars' H') (fun _ _ => False) s
  | _, _, vars, H, s, Φ, .nil, f, o, h => by rw [List.forIn_nil]; exact wpAny_pure ⟨_, _, f, o, h⟩
  | _, _, vars, H, s, Φ, .cons (vs := vs) i is, f, o, h => by
    rw [List.forIn_cons]
    refine wpAny_bind (wpAny_bind (wpAny_mono (h A env P s _ r ib f o i) ?_ fun _ _ f => f.elim))
    rintro _ s1 ⟨v1, H1, f1, o1, h1⟩
    exact wpAny_pure (WBs.run r ib is f1 o1 h1)

/-- a def of the base -/
def DefAt (B : Base) (a : Addr) (ps : Arguments) (body : List Stmt) (sc : Scope) (dv kdv : Value) (gen : Bool := false) : Prop :=
  ∃ ob fd, B.obj a = some ob ∧ ob.data = .func fd ∧ fd.params = ps ∧ fd.body = .stmts body ∧ fd.scope = sc ∧ fd.globals = mainGlobals ∧ fd.closure = [] ∧ fd.defaults = dv ∧ fd.kwdefaults = kdv ∧ fd.builtins = builtinsNs ∧ sc.isGenerator = gen ∧ sc.isCoroutine = false ∧ sc.kind = .function ∧
    ∃ c o vs t, fd.code = .ref c ∧ B.obj c = some o ∧ o.data = .fields vs ∧ vs[1]? = some (.str fd.qualname t)
theorem DefAt.callee {B : Base} {a : Addr} {ps : Arguments} {body : List Stmt} {sc : Scope} {dv kdv : Value} {g : Bool} (D : DefAt B a ps body sc dv kdv g) (H : Hp) : Callee B H (.val (.ref a)) := by
  obtain ⟨ob, fd, h, d, _⟩ := D
  exact .fn h d
/-- the looks at a def's table -/
structure Looks (sc : Scope) (names : List Str) (vs : List (Option V)) : Prop where
  nd : names.Nodup
  lo : locOk sc names = true
  cel : celOk sc (celNames sc.names) = true
  cn : (celNames sc.names).Nodup
  vs : vs.all (·.isNone) = true
/-- how the arguments go to the names -/
def Binding (B : Base) (ps : Arguments) (dv kdv : Value) (kw : List Str) (args : List V) (bs : List (Str × V)) : Prop :=
  ∀ (fd : FuncData) (P : Pr) (H : Hp) (s : Shared) (kvals vals : List Value), fd.params = ps → fd.defaults = dv → fd.kwdefaults = kdv → B.In P → Ok P H s → Are args (kvals ++ vals) → kvals.length = kw.length →
    ∃ binds, BindsTo s fd ⟨vals, kw.zip kvals⟩ binds ∧ BAre bs binds
theorem call_def {B : Base} {k : Nat} {H : Hp} {a : Addr} {ps : Arguments} {body : List Stmt} {sc : Scope} {dv kdv : Value} {names : List Str} {vs0 : List (Option V)} {kw : List Str} {args : List V} {bs : List (Str × V)} {Φ : V → Hp → Prop}
    (D : DefAt B a ps body sc dv kdv) (L : Looks sc names vs0) (hb : Binding B ps dv kdv kw args bs)
    (h : ∀ cs : List Addr, cs.length = (celNames sc.names).length → cs.Nodup → (∀ c ∈ cs, H c = none) → (∀ a, (∀ c ∈ cs, a ≠ c) → putCells H cs a = H a) →
      WBs B k ⟨sc, names, (celNames sc.names).zip cs ++ []⟩ bs vs0 (putCells H cs) fun vars H1 => WSs B k ⟨sc, names, (celNames sc.names).zip cs ++ []⟩ body vars H1 fun f _ H2 => match f with | .ret v => Φ v H2 | _ => Φ .none H2)
    {A : Around} {P : Pr} {s : Shared} {kvals vals : List Value} (r : Room (k + 1) A) (ib : B.In P) (o : Ok P H s) (ar : Are args (kvals ++ vals)) (hkl : kvals.length = kw.length) :
    wpAny B.M A (call (.ref a) vals (kw.zip kvals)) (fun val s' => ∃ v H', Is v val ∧ Ok P H' s' ∧ Φ v H') (fun _ _ => False) s := by
  obtain ⟨ob, fd, hob, hd, rfl, hbody, rfl, hg, hcl, rfl, rfl, hbl, hgen, hco, hk, c, oc, cvs, ct, hcd, hoc, hcf, hcq⟩ := D
  obtain ⟨binds, hbi, hba⟩ := hb fd P H s kvals vals rfl rfl rfl ib o ar hkl
  have hh := ib.heap o
  refine wpAny_call (codeAny_call_function r.depth (hh _ _ hob) hd hco hgen hbody ⟨c, oc, cvs, ct, hcd, hh _ _ hoc, hcf, hcq⟩ (hbi _ _ _ _ ?_))
  rw [hg, hcl, hbl]
  refine env_new (fcs := []) o hk hco L.nd L.lo (by simpa using L.cel) L.cn L.vs (fun _ _ hm => nomatch hm) (fun _ _ hm => nomatch hm) (fun _ e => nomatch e) fun cs env s1 h1 h2 h3 h6 hsc _ f1 o1 => ?_
  refine noE (WBs.run (k := k) (A := A.in1) r.in1 ib hba f1 o1 (h cs h1 h2 h3 h6)) ?_
  rintro _ s2 ⟨vars, H1, f2, o2, h2'⟩
  refine ⟨B.limit _ (ib.heap o2), codeAny_func ?_⟩
  refine noE (h2' (A.deeper env) env P s2 (r.deeper env) ib f2 o2) ?_
  rintro fl s3 ⟨f, v3, H3, ifl, f3, o3, h3'⟩
  cases ifl with
  | next => exact ⟨_, _, .none, o3, h3'⟩
  | brk => exact ⟨_, _, .none, o3, h3'⟩
  | cont => exact ⟨_, _, .none, o3, h3'⟩
  | ret i => exact ⟨_, _, i, o3, h3'⟩
theorem WC.def {B : Base} {k : Nat} {H : Hp} {a : Addr} {ps : Arguments} {body : List Stmt} {sc : Scope} {dv kdv : Value} {names : List Str} {vs0 : List (Option V)} {args : List V} {bs : List (Str × V)} {Φ : V → Hp → Prop}
    (D : DefAt B a ps body sc dv kdv) (L : Looks sc names vs0) (hb : Binding B ps dv kdv [] args bs)
    (h : ∀ cs : List Addr, cs.length = (celNames sc.names).length → cs.Nodup → (∀ c ∈ cs, H c = none) → (∀ a, (∀ c ∈ cs, a ≠ c) → putCells H cs a = H a) →
      WBs B k ⟨sc, names, (celNames sc.names).zip cs ++ []⟩ bs vs0 (putCells H cs) fun vars H1 => WSs B k ⟨sc, names, (celNames sc.names).zip cs ++ []⟩ body vars H1 fun f _ H2 => match f with | .ret v => Φ v H2 | _ => Φ .none H2) :
    WC B (k + 1) (.ref a) args H Φ := fun _ _ _ _ r ib o ar => call_def (kvals := []) D L hb h r ib o ar rfl
end Mine
end
noncomputable section
open PySem PySem.W PyProof.Rows
namespace Mine
/-! what an iterator holds of its own -/
structure Foot where
  obj : Addr → Option Obj
  gen : Nat → Option GenState
def Pr.with (P : Pr) (f : Foot) : Pr := { obj := fun a => (f.obj a).or (P.obj a), gen := fun i => (f.gen i).or (P.gen i), os := P.os }
/-- apart from what is kept -/
structure Dis (P : Pr) (f : Foot) : Prop where
  obj : ∀ a o, f.obj a = some o → P.obj a = none
  gen : ∀ i g, f.gen i = some g → P.gen i = none
theorem Pr.with_of {P : Pr} {f : Foot} (d : Dis P f) {a : Addr} {o : Obj} (h : P.obj a = some o) : (P.with f).obj a = some o := by
  show (f.obj a).or (P.obj a) = some o
  cases q : f.obj a with
  | none => exact h
  | some x => rw [d.obj a x q] at h; cases h
theorem Pr.with_gen {P : Pr} {f : Foot} (d : Dis P f) {i : Nat} {g : GenState} (h : P.gen i = some g) : (P.with f).gen i = some g := by
  show (f.gen i).or (P.gen i) = some g
  cases q : f.gen i with
  | none => exact h
  | some x => rw [d.gen i x q] at h; cases h
theorem Ok.drop {P : Pr} {f : Foot} {H : Hp} {s : Shared} (d : Dis P f) (o : Ok (P.with f) H s) : Ok P H s := o.weak (fun _ _ h => Pr.with_of d h) (fun _ _ h => h) (fun _ _ h => Pr.with_gen d h) rfl
theorem Base.In.with {B : Base} {P : Pr} {f : Foot} (h : B.In P) (d : Dis P f) : B.In (P.with f) := fun a o e => Pr.with_of d (h a o e)
theorem Ok.foot {P : Pr} {f : Foot} {H : Hp} {s : Shared} (o : Ok (P.with f) H s) {a : Addr} {ob : Obj} (h : f.obj a = some ob) : s.heap.get? a = some ob := o.prot a ob (by show (f.obj a).or _ = _; rw [h]; rfl)
theorem Ok.footH {P : Pr} {f : Foot} {H : Hp} {s : Shared} (o : Ok (P.with f) H s) {a : Addr} {ob : Obj} (h : f.obj a = some ob) : H a = none := o.dis a ob (by show (f.obj a).or _ = _; rw [h]; rfl)
def Foot.one (a : Addr) (o : Obj) : Foot := { obj := fun b => if b = a then some o else none, gen := fun _ => none }
theorem Foot.one_self (a : Addr) (o : Obj) : (Foot.one a o).obj a = some o := if_pos rfl
theorem Foot.one_eq {a b : Addr} {o x : Obj} (h : (Foot.one a o).obj b = some x) : b = a ∧ x = o := by
  have h' : (if b = a then some o else none) = some x := h
  split at h'
  · exact ⟨‹_›, (Option.some.inj h').symm⟩
  · cases h'
theorem Ok.pushF {P : Pr} {H : Hp} {s : Shared} (K : Ok P H s) {ob : Obj} (hf : ob.isFreed = false) : Dis P (Foot.one s.heap.objs.size ob) ∧ Ok (P.with (Foot.one s.heap.objs.size ob)) H { s with heap := s.heap.push ob } := by
  refine ⟨⟨fun a x h => ?_, fun _ _ h => nomatch h⟩, ?_⟩
  · obtain ⟨rfl, _⟩ := Foot.one_eq h; exact K.newP
  · refine (K.pushP hf s.toks).weak (fun a x h => ?_) (fun _ _ h => h) (fun _ _ h => h) rfl
    have h' : ((Foot.one s.heap.objs.size ob).obj a).or (P.obj a) = some x := h
    show (if a = s.heap.objs.size then some ob else P.obj a) = some x
    by_cases e : a = s.heap.objs.size
    · rw [if_pos e]; subst e; rw [Foot.one_self] at h'; exact h'
    · rw [if_neg e]
      have : (Foot.one s.heap.objs.size ob).obj a = none := if_neg e
      rw [this] at h'; exact h'
/-- an iterator's object turned -/
theorem Ok.updF {P : Pr} {H : Hp} {s : Shared} {a : Addr} {ob ob' : Obj} (d : Dis P (Foot.one a ob)) (K : Ok (P.with (Foot.one a ob)) H s) {h' : Heap} (hs : Heap.SameBut a s.heap h') (e : h'.get? a = some ob') (t : Nat) :
    Dis P (Foot.one a ob') ∧ Ok (P.with (Foot.one a ob')) H { s with heap := h', toks := t } := by
  have ha : (P.with (Foot.one a ob)).obj a = some ob := by show ((Foot.one a ob).obj a).or _ = _; rw [Foot.one_self]; rfl
  refine ⟨⟨fun b x h => ?_, fun _ _ h => nomatch h⟩, ?_⟩
  · obtain ⟨rfl, _⟩ := Foot.one_eq h; exact d.obj _ _ (Foot.one_self _ ob)
  · refine (K.updP ha hs e t).weak (fun b x h => ?_) (fun _ _ h => h) (fun _ _ h => h) rfl
    have h' : ((Foot.one a ob').obj b).or (P.obj b) = some x := h
    show (if b = a then some ob' else ((Foot.one a ob).obj b).or (P.obj b)) = some x
    by_cases q : b = a
    · rw [if_pos q]; subst q; rw [Foot.one_self] at h'; exact h'
    · rw [if_neg q]
      have z : ∀ o, (Foot.one a o).obj b = none := fun o => if_neg q
      rw [z] at h' ⊢; exact h'
/-- an iterator's object gone -/
theorem Ok.endF {P : Pr} {H : Hp} {s : Shared} {a : Addr} {ob : Obj} (d : Dis P (Foot.one a ob)) (K : Ok (P.with (Foot.one a ob)) H s) {h' : Heap} (hs : Heap.ExtBut a s.heap h') (t : Nat) : Ok P H { s with heap := h', toks := t } := by
  have ne : ∀ b o, P.obj b = some o → b ≠ a := by rintro b o h rfl; rw [d.obj _ _ (Foot.one_self _ ob)] at h; cases h
  have hH : H a = none := K.footH (Foot.one_self _ ob)
  have neH : ∀ b o, H b = some o → b ≠ a := by rintro b o h rfl; rw [hH] at h; cases h
  have K' := K.drop d
  exact ⟨fun b o h => hs b o (ne b o h) (K'.prot b o h), fun b o h => let ⟨x, e, i⟩ := K'.objs b o h; ⟨x, hs b x (neH b o h) e, i⟩, K'.dis, K'.gens, K'.bare, K'.os⟩

/-- how an iterator steps -/
structure Iter (B : Base) (k : Nat) (A : Around) (it : Value) (n : Nat) (J : Nat → Foot → Prop) (Req : Hp → Prop) (Item : Nat → Hp → V → Hp → Prop) : Prop where
  next : ∀ (i : Nat) (f : Foot) (P : Pr) (H : Hp) (s : Shared), i < n → J i f → B.In P → Dis P f → Room k A → Ok (P.with f) H s → Req H →
    wpAny B.M A (pyNext it) (fun r s' => ∃ val v f' H', r = some val ∧ Is v val ∧ J (i + 1) f' ∧ Dis P f' ∧ Ok (P.with f') H' s' ∧ Item i H v H') (fun _ _ => False) s
  done : ∀ (f : Foot) (P : Pr) (H : Hp) (s : Shared), J n f → B.In P → Dis P f → Room k A → Ok (P.with f) H s → Req H →
    wpAny B.M A (pyNext it) (fun r s' => r = none ∧ Ok P H s') (fun _ _ => False) s
  quiet : ∀ (i : Nat) (f : Foot) (P : Pr) (H : Hp) (s : Shared) (t : PySem.Expr) (v : Value), J i f → Ok (P.with f) H s → wpAny B.M A (letOwnedTupleGo t it v) (fun _ s' => s' = s) (fun _ _ => False) s

theorem Fm.guardF {F : FI} {env : Env} {vars : List (Option V)} {P : Pr} {f : Foot} {H : Hp} {s : Shared} (K : Fm F env vars P H s) (O : Ok (P.with f) H s) (d : Dis P f) (hl : f.obj env.locals = none) :
    ∃ P' : Pr, (∀ a o, P.obj a = some o → P'.obj a = some o) ∧ Dis P' f ∧ Ok (P'.with f) H s ∧ ∀ H' s' f', Dis P' f' → Ok (P'.with f') H' s' → Fm F env vars P H' s' ∧ Dis P f' ∧ Ok (P.with f') H' s' ∧ f'.obj env.locals = none := by
  classical
  let P' : Pr := { P with obj := fun b => if H b = none ∧ f.obj b = none then s.heap.get? b else none }
  have hP : ∀ a o, P.obj a = some o → P'.obj a = some o := fun a o h => by
    show (if H a = none ∧ f.obj a = none then s.heap.get? a else none) = some o
    have hf : f.obj a = none := by
      cases q : f.obj a with
      | none => rfl
      | some x => rw [d.obj a x q] at h; cases h
    rw [if_pos ⟨O.dis a o (Pr.with_of d h), hf⟩]; exact O.prot a o (Pr.with_of d h)
  have d' : Dis P' f := ⟨fun a o h => by
    show (if H a = none ∧ f.obj a = none then s.heap.get? a else none) = none
    rw [if_neg (fun x => by rw [h] at x; cases x.2)], d.gen⟩
  have split : ∀ a o, (P'.with f).obj a = some o → s.heap.get? a = some o ∧ H a = none := fun a o h => by
    have h' : (f.obj a).or (if H a = none ∧ f.obj a = none then s.heap.get? a else none) = some o := h
    cases q : f.obj a with
    | some x => rw [q] at h'; cases h'; exact ⟨O.foot q, O.footH q⟩
    | none =>
      rw [q, Option.none_or] at h'
      split at h'
      · exact ⟨h', (‹H a = none ∧ _›).1⟩
      · cases h'
  refine ⟨P', hP, d', ⟨fun a o h => (split a o h).1, O.objs, fun a o h => (split a o h).2, O.gens, O.bare, O.os⟩, fun H' s' f' df O' => ?_⟩
  obtain ⟨m, ⟨ol, _, _, ho, _⟩, _⟩ := K.ns
  have q : P'.obj env.locals = some ol := by
    show (if H env.locals = none ∧ f.obj env.locals = none then s.heap.get? env.locals else none) = some ol
    rw [if_pos ⟨K.locH, hl⟩]; exact ho
  have hl' : f'.obj env.locals = none := by
    cases z : f'.obj env.locals with
    | none => rfl
    | some x => rw [df.obj _ x z] at q; cases q
  have df' : Dis P f' := ⟨fun a o h => by
    cases z : P.obj a with
    | none => rfl
    | some x => (have := df.obj a o h; rw [hP a x z] at this; cases this), df.gen⟩
  have w : ∀ a o, (P.with f').obj a = some o → (P'.with f').obj a = some o := fun a o h => by
    have h' : (f'.obj a).or (P.obj a) = some o := h
    show (f'.obj a).or (P'.obj a) = some o
    cases z : f'.obj a with
    | some x => rw [z] at h'; exact h'
    | none => rw [z, Option.none_or] at h'; rw [Option.none_or]; exact hP a o h'
  have wl : (P'.with f').obj env.locals = some ol := Pr.with_of df q
  refine ⟨K.mono (fun o e => ?_) (fun _ => O'.dis _ _ wl) (fun _ => K.locP), df', O'.weak w (fun _ _ h => h) (fun _ _ h => h) rfl, hl'⟩
  rw [ho] at e; cases e
  exact O'.prot _ _ wl

theorem codeAny_for {prog : Program} {w : World} {A : Around} {R : Result → Shared → Prop} {target : PySem.Expr} {it : Value} {body : List Stmt} {env : Env} (I : Nat → Shared → Prop)
    (turn : ∀ n s, I n s → wpAny (model prog w) A (pyNext it) (fun r s₁ => match r with
      | none => R (.ok .next) s₁
      | some v => wpAny (model prog w) A (letOwnedTupleGo target it v) (fun _ s₁ => wpAny (model prog w) A (PySem.assign target env v) (fun _ s₂ => wpAny (model prog w) A (execs body env) (fun f s₃ => match f with
          | .next | .cont => ∃ m, m < n ∧ I m s₃
          | .brk => R (.ok .next) s₃
          | .ret v => R (.ok (.ret v)) s₃) (fun _ _ => False) s₂) (fun _ _ => False) s₁) (fun _ _ => False) s₁) (fun _ _ => False) s)
    (n : Nat) (s : Shared) (h : I n s) : codeAny (model prog w) A (.forLoop target it body [] env) R s := by
  refine codeAny_loop' rfl I (fun n s hI => ?_) n h
  show wpAny _ _ ((forTurn target it body [] env).onRaise (fun x => do noteFrame x env; theTreesLotGoes x)) _ _ s
  refine wpAny_noted ?_
  simp only [forTurn]
  refine wpAny_bind (wpAny_standAt (wpAny_bind (wpAny_onRaise (wpAny_mono (turn n s hI) (fun r s₁ h₁ => ?_) fun _ _ h' => h'.elim))))
  cases r with
  | none => exact wpAny_pure (.inr ⟨rfl, codeAny_block (wpAny_execs_nil h₁)⟩)
  | some v =>
    refine wpAny_bind (noE h₁ (fun _ s₁ h₁ => ?_))
    refine wpAny_bind (noE h₁ (fun _ s₂ h₂ => wpAny_bind (noE h₂ (fun f s₃ h₃ => ?_))))
    cases f with
    | next => exact wpAny_pure (.inl ⟨rfl, h₃⟩)
    | cont => exact wpAny_pure (.inl ⟨rfl, h₃⟩)
    | brk => exact wpAny_pure h₃
    | ret v => exact wpAny_pure h₃

/-- a turn's end -/
def turnEnd (Inv : List (Option V) → Hp → Prop) (Ψ : Fl → List (Option V) → Hp → Prop) : Fl → List (Option V) → Hp → Prop
  | .next => Inv
  | .cont => Inv
  | .brk => Ψ .next
  | .ret v => Ψ (.ret v)

theorem for_core {B : Base} {k : Nat} {F : FI} {it : Value} {n : Nat} {J : Nat → Foot → Prop} {Req : Hp → Prop} {Item : Nat → Hp → V → Hp → Prop} {A : Around} (I : Iter B k A it n J Req Item) {target : PySem.Expr} {body : List Stmt}
    {Ψ : Fl → List (Option V) → Hp → Prop} (Inv : Nat → List (Option V) → Hp → Prop) (req : ∀ i v H, Inv i v H → Req H)
    (turn : ∀ i vars H v H1, i < n → Inv i vars H → Item i H v H1 → WA B k F target v vars H1 fun v2 H2 => WSs B k F body v2 H2 (turnEnd (Inv (i + 1)) Ψ))
    (fin : ∀ vars H, Inv n vars H → Ψ .next vars H)
    {env : Env} {P : Pr} {f : Foot} {vars : List (Option V)} {H : Hp} {s : Shared} (r : Room k A) (ib : B.In P) (fm : Fm F env vars P H s) (o : Ok (P.with f) H s) (d : Dis P f) (hl : f.obj env.locals = none) (j : J 0 f) (h : Inv 0 vars H) :
    codeAny B.M A (.forLoop target it body [] env) (fun r s' => match r with | .ok fl => ∃ g v' H', FlIs g fl ∧ Fm F env v' P H' s' ∧ Ok P H' s' ∧ Ψ g v' H' | .error _ => False) s := by
  refine codeAny_for (fun m s => ∃ i f vars H, i ≤ n ∧ m = n - i ∧ Fm F env vars P H s ∧ Ok (P.with f) H s ∧ Dis P f ∧ f.obj env.locals = none ∧ J i f ∧ Inv i vars H) ?_ (n - 0) s ⟨0, f, vars, H, Nat.zero_le _, rfl, fm, o, d, hl, j, h⟩
  rintro m s ⟨i, f, vars, H, hi, rfl, fm, o, d, hl, j, h⟩
  obtain ⟨P', hP, d', o', back⟩ := fm.guardF o d hl
  have ib' : B.In P' := fun a x e => hP a x (ib a x e)
  by_cases hlt : i < n
  · refine wpAny_mono (I.next i f P' H s hlt j ib' d' r o' (req _ _ _ h)) ?_ fun _ _ e => e
    rintro _ s1 ⟨val, v, f1, H1, rfl, iv, j1, d1, o1, it1⟩
    obtain ⟨fm2, d2, o2, hl2⟩ := back _ _ _ d1 o1
    refine wpAny_mono (I.quiet (i + 1) f1 P H1 s1 target val j1 o2) ?_ fun _ _ e => e
    rintro _ _ rfl
    have fmw : ∀ {F : FI} {vars H s}, Fm F env vars P H s → Fm F env vars (P.with f1) H s := fun K => K.mono (fun _ e => e) (fun _ => K.locH) fun _ => by
      show (f1.obj env.locals).or (P.obj env.locals) = none
      rw [hl2]; exact K.locP
    have fmb : ∀ {F : FI} {vars H s}, Fm F env vars (P.with f1) H s → Fm F env vars P H s := fun K => K.mono (fun _ e => e) (fun _ => K.locH) fun _ => by
      have := K.locP
      have : (f1.obj env.locals).or (P.obj env.locals) = none := this
      rw [hl2] at this; exact this
    refine wpAny_mono (turn i vars H v H1 hlt h it1 A env (P.with f1) _ val r (ib.with d2) (fmw fm2) o2 iv) ?_ fun _ _ e => e
    rintro _ s2 ⟨v2, H2, fm3, o3, h3⟩
    refine wpAny_mono (h3 A env (P.with f1) s2 r (ib.with d2) fm3 o3) ?_ fun _ _ e => e
    rintro fl s3 ⟨g, v4, H4, ifl, fm4, o4, h4⟩
    cases ifl with
    | next => exact ⟨n - (i + 1), by omega, i + 1, f1, v4, H4, hlt, rfl, fmb fm4, o4, d2, hl2, j1, h4⟩
    | cont => exact ⟨n - (i + 1), by omega, i + 1, f1, v4, H4, hlt, rfl, fmb fm4, o4, d2, hl2, j1, h4⟩
    | brk => exact ⟨_, _, _, .next, fmb fm4, o4.drop d2, h4⟩
    | ret iv => exact ⟨_, _, _, .ret iv, fmb fm4, o4.drop d2, h4⟩
  · have e : i = n := by omega
    subst e
    refine wpAny_mono (I.done f P' H s j ib' d' r o' (req _ _ _ h)) ?_ fun _ _ e => e
    rintro _ s1 ⟨rfl, o1⟩
    have z : P'.with ⟨fun _ => none, fun _ => none⟩ = P' := by unfold Pr.with; simp
    obtain ⟨fm2, _, o2, _⟩ := back H s1 ⟨fun _ => none, fun _ => none⟩ ⟨fun _ _ h => (nomatch h), fun _ _ h => (nomatch h)⟩ (by rw [z]; exact o1)
    have z2 : P.with ⟨fun _ => none, fun _ => none⟩ = P := by unfold Pr.with; simp
    rw [z2] at o2
    exact ⟨_, _, _, .next, fm2, o2, fin _ _ h⟩
end Mine
end
noncomputable section
open PySem PySem.W PyProof.Rows
namespace Mine
theorem quiet_of {M : Model} {A : Around} {E : Value → Shared → Prop} {s : Shared} {r : Addr} {ob : Obj} {T : String} (h : s.heap.get? r = some ob) (hc : ob.cls = .type T)
    (hT : (["enumerate", "zip", "dict_itemiterator", "dict_reverseitemiterator", "odict_iterator", "itertools.zip_longest", "itertools.pairwise"].contains T) = false) (t : PySem.Expr) (v : Value) :
    wpAny M A (letOwnedTupleGo t (.ref r) v) (fun _ s' => s' = s) E s := by
  have key : wpAny M A (do
      let (.ref r, .ref a) := (Value.ref r, v) | return
      let o ← load r
      match o.cls, o.data with
      | .type n, .fields vs =>
        if ["enumerate", "zip", "dict_itemiterator", "dict_reverseitemiterator", "odict_iterator", "itertools.zip_longest", "itertools.pairwise"].contains n && vs[0]? == some (rawInt a) then
          rule "for.unpacks-the-owned-tuple"
          updateField r 0 .none
      | _, _ => pure () : Sem Unit) (fun _ s' => s' = s) E s := by
    cases v with
    | ref a =>
      refine wpAny_bind (wpAny_load h ?_)
      rw [hc]
      cases ob.data with
      | fields vs =>
        dsimp only
        rw [hT]
        exact wpAny_pure rfl
      | _ => exact wpAny_pure rfl
    | _ => exact wpAny_pure rfl
  unfold letOwnedTupleGo
  split
  · exact key
  · exact key
  · exact wpAny_pure rfl

/-! a list's iterator -/
def liJ (it l : Addr) (i : Nat) (f : Foot) : Prop := ∃ o : Obj, o.cls = .type "list_iterator" ∧ o.data = .fields #[.ref l, .int i 0] ∧ f = Foot.one it o
theorem iter_list {B : Base} {k : Nat} {A : Around} {it l : Addr} {xs : List V} : Iter B k A (.ref it) xs.length (liJ it l) (fun H => H l = some (.list xs)) (fun i H v H' => xs[i]? = some v ∧ H' = H) where
  next := by
    rintro i f P H s hi ⟨ob, hc, hd, rfl⟩ ib d r o hl
    obtain ⟨vs, n, ia, e⟩ := o.isL hl
    obtain ⟨v, hv, iv⟩ := ia.get (i := i) (x := xs[i]) (by simp [hi])
    refine wpAny_pyNext_list_item ⟨ob, o.foot (Foot.one_self _ _), hc, hd⟩ e.isList (x := v) (by simpa using hv) fun h' hit hs => ?_
    obtain ⟨ob', e', hc', hd'⟩ := hit
    obtain ⟨d', o'⟩ := o.updF d hs e' s.toks
    exact ⟨v, _, _, H, rfl, iv, ⟨ob', hc', hd', rfl⟩, d', o', by simp [hi], rfl⟩
  done := by
    rintro f P H s ⟨ob, hc, hd, rfl⟩ ib d r o hl
    obtain ⟨vs, n, ia, e⟩ := o.isL hl
    refine wpAny_pyNext_list_end r.1 ⟨ob, o.foot (Foot.one_self _ _), hc, hd⟩ e.isList (by simp [ia.length]) fun h' hx => ?_
    exact ⟨rfl, o.endF d hx s.toks⟩
  quiet := by
    rintro i f P H s t v ⟨ob, hc, hd, rfl⟩ o
    exact quiet_of (o.foot (Foot.one_self _ _)) hc (by decide) t v
theorem pyIter_list {B : Base} {A : Around} {P : Pr} {H : Hp} {s : Shared} {l : Addr} {xs : List V} {Q : Value → Shared → Prop} {E : Value → Shared → Prop} (o : Ok P H s) (hl : H l = some (.list xs))
    (h : ∀ f s', (∀ b x, s.heap.get? b = some x → s'.heap.get? b = some x) → (∀ b, f.obj b ≠ none → s.heap.objs.size ≤ b) → liJ s.heap.objs.size l 0 f → Dis P f → Ok (P.with f) H s' → Q (.ref s.heap.objs.size) s') : wpAny B.M A (pyIter (.ref l)) Q E s := by
  obtain ⟨vs, n, ia, e⟩ := o.isL hl
  refine wpAny_pyIter_list e.isList ?_
  obtain ⟨d, o'⟩ := o.pushF (ob := { cls := .type "list_iterator", data := .fields #[.ref l, .int 0 0] }) rfl
  refine h _ _ (fun b x q => Heap.get?_push_of_some _ q) (fun b hb => ?_) ⟨_, rfl, rfl, rfl⟩ d o'
  cases q : (Foot.one s.heap.objs.size { cls := .type "list_iterator", data := .fields #[.ref l, .int 0 0] }).obj b with
  | none => exact absurd q hb
  | some x => rw [(Foot.one_eq q).1]; exact Nat.le_refl _

/-! a range's iterator -/
def rgCount (a b c : Int) : Nat := (Builtin.Range.rangeSize a b c).toNat
def rgJ (it : Addr) (a b c : Int) (i : Nat) (f : Foot) : Prop := f = Foot.one it { cls := .type "range_iterator", dict := none, data := .fields #[rawInt (a + i * c), rawInt (Builtin.Range.rangeSize a b c - i), rawInt c], slots := #[] }
theorem iter_range {B : Base} {k : Nat} {A : Around} {it : Addr} {a b c : Int} (hpos : 0 ≤ Builtin.Range.rangeSize a b c) : Iter B k A (.ref it) (rgCount a b c) (rgJ it a b c) (fun _ => True) (fun i H v H' => v = .int (a + i * c) ∧ H' = H) where
  next := by
    rintro i f P H s hi rfl ib d r o _
    unfold rgCount at hi
    refine wpAny_pyNext_range_item (o.foot (Foot.one_self _ _)) (by omega) fun h' hit hs => ?_
    obtain ⟨d', o'⟩ := o.updF d hs hit (s.toks + 1)
    refine ⟨_, _, _, H, rfl, .int _ _, ?_, d', o', rfl, rfl⟩
    unfold rgJ
    have e1 : a + ((i + 1 : Nat) : Int) * c = a + (i : Int) * c + c := by push_cast; rw [Int.add_mul, Int.one_mul, Int.add_assoc]
    have e2 : Builtin.Range.rangeSize a b c - ((i + 1 : Nat) : Int) = Builtin.Range.rangeSize a b c - (i : Int) - 1 := by push_cast; omega
    rw [e1, e2]
  done := by
    rintro f P H s rfl ib d r o _
    unfold rgCount at *
    refine wpAny_pyNext_range_end r.1 (o.foot (Foot.one_self _ _)) (by omega) fun h' hx => ?_
    exact ⟨rfl, o.endF d hx s.toks⟩
  quiet := by
    rintro i f P H s t v rfl o
    exact quiet_of (o.foot (Foot.one_self _ _)) rfl (by decide) t v
theorem pyIter_range {B : Base} {A : Around} {P : Pr} {H : Hp} {s : Shared} {l : Addr} {a b c : Int} {Q : Value → Shared → Prop} {E : Value → Shared → Prop} (o : Ok P H s) (hl : H l = some (.rng a b c)) (hsm : Builtin.Range.small a b c = true)
    (h : ∀ f s', (∀ b x, s.heap.get? b = some x → s'.heap.get? b = some x) → (∀ b, f.obj b ≠ none → s.heap.objs.size ≤ b) → rgJ s.heap.objs.size a b c 0 f → Dis P f → Ok (P.with f) H s' → Q (.ref s.heap.objs.size) s') : wpAny B.M A (pyIter (.ref l)) Q E s := by
  obtain ⟨t, u, v, e⟩ := o.rng hl
  refine wpAny_pyIter_range e hsm ?_
  obtain ⟨d, o'⟩ := o.pushF (ob := { cls := .type "range_iterator", data := .fields #[rawInt a, rawInt (Builtin.Range.rangeSize a b c), rawInt c] }) rfl
  refine h _ _ (fun b x q => Heap.get?_push_of_some _ q) (fun b' hb => ?_) (by unfold rgJ; simp) d o'
  cases q : (Foot.one s.heap.objs.size { cls := .type "range_iterator", data := .fields #[rawInt a, rawInt (Builtin.Range.rangeSize a b c), rawInt c] }).obj b' with
  | none => exact absurd q hb
  | some x => rw [(Foot.one_eq q).1]; exact Nat.le_refl _

/-! loops -/
section
variable {B : Base} {k : Nat} {F : FI} {vars : List (Option V)} {H : Hp}
/-- an iterator is its own -/
def Self (B : Base) (A : Around) (it : Value) (J : Nat → Foot → Prop) : Prop :=
  ∀ (P : Pr) (f : Foot) (H : Hp) (s : Shared), J 0 f → Ok (P.with f) H s → wpAny B.M A (pyIter it) (fun v s' => v = it ∧ s' = s) (fun _ _ => False) s
/-- a thing that is walked -/
def WIt (B : Base) (k : Nat) (F : FI) (ie : PySem.Expr) (vars : List (Option V)) (H : Hp) (Ψ : Nat → (Hp → Prop) → (Nat → Hp → V → Hp → Prop) → Hp → Prop) : Prop :=
  ∀ A env P s (Q : Value → Shared → Prop), Room k A → B.In P → Fm F env vars P H s → Ok P H s →
    (∀ it J f n Req Item H1 s', Iter B k A it n J Req Item → Self B A it J → J 0 f → Dis P f → Ok (P.with f) H1 s' → Fm F env vars P H1 s' → f.obj env.locals = none → Ψ n Req Item H1 → Q it s') →
    wpAny B.M A (eval ie env) (fun x s1 => wpAny B.M A (pyIter x) Q (fun _ _ => False) s1) (fun _ _ => False) s
theorem WIt.list {ie : PySem.Expr} {Ψ : Nat → (Hp → Prop) → (Nat → Hp → V → Hp → Prop) → Hp → Prop}
    (h : WE B k F ie vars H fun v H1 => ∃ a xs, v = .ref a ∧ H1 a = some (.list xs) ∧ Ψ xs.length (fun H => H a = some (.list xs)) (fun i H v H' => xs[i]? = some v ∧ H' = H) H1) : WIt B k F ie vars H Ψ := by
  intro A env P s Q r i f o q
  refine noE (h A env P s r i f o) ?_
  rintro val s1 ⟨v, H1, ia, f1, o1, a, xs, rfl, hl, hΨ⟩
  cases ia
  refine pyIter_list o1 hl fun ft s2 hk hb j d o2 => ?_
  refine q _ _ ft _ _ _ H1 s2 iter_list (fun P f H s j o => ?_) j d o2 (f1.keep hk) ?_ hΨ
  · obtain ⟨ob, hc, hd, rfl⟩ := j
    exact wpAny_pyIter_listiter ⟨ob, o.foot (Foot.one_self _ _), hc, hd⟩ ⟨rfl, rfl⟩
  · cases q : ft.obj env.locals with
    | none => rfl
    | some x => exact absurd (hb _ (by rw [q]; exact fun h => nomatch h)) (Nat.not_le.mpr f1.lt)
theorem WIt.range {ie : PySem.Expr} {Ψ : Nat → (Hp → Prop) → (Nat → Hp → V → Hp → Prop) → Hp → Prop}
    (h : WE B k F ie vars H fun v H1 => ∃ r a b c, v = .ref r ∧ H1 r = some (.rng a b c) ∧ Builtin.Range.small a b c = true ∧ 0 ≤ Builtin.Range.rangeSize a b c ∧ Ψ (rgCount a b c) (fun _ => True) (fun i H v H' => v = .int (a + i * c) ∧ H' = H) H1) : WIt B k F ie vars H Ψ := by
  intro A env P s Q r i f o q
  refine noE (h A env P s r i f o) ?_
  rintro val s1 ⟨v, H1, ia, f1, o1, l, a, b, c, rfl, hl, hsm, hpos, hΨ⟩
  cases ia
  refine pyIter_range o1 hl hsm fun ft s2 hk hb j d o2 => ?_
  refine q _ _ ft _ _ _ H1 s2 (iter_range hpos) (fun P f H s j o => ?_) j d o2 (f1.keep hk) ?_ hΨ
  · have j' : f = _ := j
    subst j'
    exact wpAny_pyIter_rangeiter (o.foot (Foot.one_self _ _)) ⟨rfl, rfl⟩
  · cases q : ft.obj env.locals with
    | none => rfl
    | some x => exact absurd (hb _ (by rw [q]; exact fun h => nomatch h)) (Nat.not_le.mpr f1.lt)
/-- what is asked of a loop -/
def ForOk (B : Base) (k : Nat) (F : FI) (target : PySem.Expr) (body : List Stmt) (vars : List (Option V)) (Ψ : Fl → List (Option V) → Hp → Prop) (n : Nat) (Req : Hp → Prop) (Item : Nat → Hp → V → Hp → Prop) (H1 : Hp) : Prop :=
  ∃ Inv : Nat → List (Option V) → Hp → Prop, Inv 0 vars H1 ∧ (∀ i v H, Inv i v H → Req H) ∧
    (∀ i vars H v H1, i < n → Inv i vars H → Item i H v H1 → WA B k F target v vars H1 fun v2 H2 => WSs B k F body v2 H2 (turnEnd (Inv (i + 1)) Ψ)) ∧ (∀ vars H, Inv n vars H → Ψ .next vars H)
theorem WSs.for {target ie : PySem.Expr} {body rest : List Stmt} {pos : Pos} {Φ : Fl → List (Option V) → Hp → Prop} (h : WIt B k F ie vars H (ForOk B k F target body vars (thenDo B k F rest Φ)))
    (hs : ∀ env x, foldedSetIterable ie env x = pure x := by intro _ _; with_unfolding_all rfl) : WSs B k F (.For target ie body [] pos :: rest) vars H Φ := by
  refine WSs.cons fun A env P s r i f o => ?_
  refine wpAny_For ?_ (hs env)
  refine h A env P s _ r i f o fun it J ft n Req Item H1 s2 I self j d o2 f2 hloc hΨ => ?_
  obtain ⟨Inv, h0, hreq, hturn, hfin⟩ := hΨ
  refine codeAny_mono (for_core (Ψ := thenDo B k F rest Φ) I Inv hreq hturn hfin r i f2 o2 d hloc j h0) ?_
  rintro (_ | fl) s3 h3
  · exact h3.elim
  · exact h3
theorem WSs.while {test : PySem.Expr} {body rest : List Stmt} {pos : Pos} {Φ : Fl → List (Option V) → Hp → Prop} (Inv : Nat → List (Option V) → Hp → Prop) (n : Nat) (h0 : Inv n vars H)
    (turn : ∀ n vars H, Inv n vars H → WT B k F test vars H fun b H1 => (b = true → WSs B k F body vars H1 (turnEnd (fun v2 H2 => ∃ m, m < n ∧ Inv m v2 H2) (thenDo B k F rest Φ))) ∧ (b = false → WSs B k F rest vars H1 Φ)) :
    WSs B k F (.While test body [] pos :: rest) vars H Φ := by
  refine WSs.cons fun A env P s r i f o => ?_
  refine wpAny_While ?_
  refine codeAny_mono (R := fun r s' => match r with | .ok fl => ∃ g v' H', FlIs g fl ∧ Fm F env v' P H' s' ∧ Ok P H' s' ∧ thenDo B k F rest Φ g v' H' | .error _ => False)
    (codeAny_whileLoop (fun n s => ∃ vars H, Fm F env vars P H s ∧ Ok P H s ∧ Inv n vars H) ?_ n ⟨vars, H, f, o, h0⟩) ?_
  · rintro n s ⟨vars, H, f, o, hI⟩
    refine noE (turn n vars H hI A env P s r i f o) ?_
    rintro b s1 ⟨H1, f1, o1, ht, hf⟩
    cases b with
    | true =>
      refine noE (ht rfl A env P s1 r i f1 o1) ?_
      rintro fl s2 ⟨g, v2, H2, ifl, f2, o2, h2⟩
      cases ifl with
      | next => obtain ⟨m, hm, hI⟩ := h2; exact ⟨m, hm, _, _, f2, o2, hI⟩
      | cont => obtain ⟨m, hm, hI⟩ := h2; exact ⟨m, hm, _, _, f2, o2, hI⟩
      | brk => exact ⟨_, _, _, .next, f2, o2, h2⟩
      | ret iv => exact ⟨_, _, _, .ret iv, f2, o2, h2⟩
    | false =>
      exact wpAny_execs_nil ⟨_, _, _, .next, f1, o1, hf rfl⟩
  · rintro (_ | fl) s3 h3
    · exact h3.elim
    · exact h3
end
end Mine
end
noncomputable section
open PySem PySem.W PyProof.Rows
namespace Mine
/-- a comprehension's table, as it runs within a block -/
def relab (sc0 sc : Scope) : Scope :=
  { sc0 with names := sc0.names.map fun (n, k) => if (k == .free && sc.kind == .function && sc.names.lookup n == some .cell) then (n, .cell) else (n, k) }
theorem closure_go {env : Env} (f : Str × NameKind → List (Str × Addr) → Sem (ForInStep (List (Str × Addr)))) (hf : ∀ n kd cs, f (n, kd) cs = if kd == .free then (do let a ← cellOf env n; pure (ForInStep.yield ((n, a) :: cs))) else pure (ForInStep.yield cs)) :
    ∀ (names : List (Str × NameKind)) (fcs acc : List (Str × Addr)), ((names.filter (·.2 == .free)).map (·.1)) = fcs.map (·.1) → (∀ p ∈ fcs, env.cells.lookup p.1 = some p.2) →
    (forIn names acc f : Sem (List (Str × Addr))) = pure (fcs.reverse ++ acc)
  | [], fcs, acc, h, _ => by cases fcs with | nil => rfl | cons => simp at h
  | (n, kd) :: r, fcs, acc, h, hc => by
    rw [List.forIn_cons, hf]
    by_cases hk : (kd == NameKind.free) = true
    · simp only [hk, if_true]
      rw [List.filter_cons, if_pos hk] at h
      cases fcs with
      | nil => simp at h
      | cons p fcs =>
        simp only [List.map_cons, List.cons.injEq] at h
        have e : cellOf env n = pure p.2 := by unfold cellOf; rw [h.1, hc p List.mem_cons_self]
        rw [e]
        simp only [pure_bind]
        rw [closure_go f hf r fcs _ h.2 fun q hq => hc q (List.mem_cons_of_mem _ hq), h.1]
        simp
    · simp only [hk, Bool.false_eq_true, if_false, pure_bind]
      rw [List.filter_cons, if_neg hk] at h
      exact closure_go f hf r fcs acc h hc
theorem closureFor_is {env : Env} {scope : Scope} {fcs : List (Str × Addr)} (h : ((scope.names.filter (·.2 == .free)).map (·.1)) = fcs.map (·.1)) (hc : ∀ p ∈ fcs, env.cells.lookup p.1 = some p.2) : closureFor scope env = pure fcs.reverse := by
  simp only [closureFor]
  rw [closure_go (env := env) _ (fun n kd cs => by cases hkc : kd == NameKind.free <;> simp [hkc]) scope.names fcs [] h hc, List.append_nil]
  rfl
/-- the tests of a comprehension -/
def WIf (B : Base) (k : Nat) (F : FI) (ifs : List PySem.Expr) (vars : List (Option V)) (H : Hp) (Φ : Bool → Hp → Prop) : Prop :=
  match ifs with
  | [] => Φ true H
  | [c] => WT B k F c vars H Φ
  | _ => False
theorem Ok.reveal {P : Pr} {H : Hp} {s : Shared} {D : Addr} {ob : Obj} {o : O} (hP : P.obj D = none) (K : Ok (P.put D ob) H s) (i : ObIs o ob) : Ok P (put H D o) s := by
  have hD := K.prot D ob (Pr.put_self _ _ _)
  refine ⟨fun a x h => ?_, fun a x h => ?_, fun a x h => ?_, K.gens, K.bare, K.os⟩
  · have : a ≠ D := by rintro rfl; rw [hP] at h; cases h
    exact K.prot a x (by rw [Pr.put_ne _ _ this]; exact h)
  · by_cases e : a = D
    · subst e; rw [put_self] at h; cases h; exact ⟨ob, hD, i⟩
    · rw [put_ne _ _ e] at h; exact K.objs a x h
  · have : a ≠ D := by rintro rfl; rw [hP] at h; cases h
    rw [put_ne _ _ this]
    exact K.dis a x (by rw [Pr.put_ne _ _ this]; exact h)
abbrev accObj (vs : Array Value) (n : Nat) : Obj := { cls := .type "list", data := .seq vs n }
def CompSt (n : Nat) (J : Nat → Foot → Prop) (Inv : Nat → List V → Hp → Prop) (P : Pr) (D : Addr) (F : FI) (env : Env) (m : Nat) (s : Shared) : Prop :=
  ∃ (i : Nat) (f : Foot) (out : List V) (outv : List Value) (c : Nat) (vars : List (Option V)) (H : Hp), i ≤ n ∧ m = n - i ∧ out.length ≤ i ∧ Are out outv ∧ Fm F env vars (P.put D (accObj outv.toArray c)) H s ∧ Ok ((P.put D (accObj outv.toArray c)).with f) H s ∧
    Dis (P.put D (accObj outv.toArray c)) f ∧ f.obj env.locals = none ∧ J i f ∧ Inv i out H
def CompOut (n : Nat) (Inv : Nat → List V → Hp → Prop) (P : Pr) (D : Addr) (F : FI) (env : Env) (r : Result) (s' : Shared) : Prop :=
  match r with
  | .ok _ => ∃ out H' vars', H' D = none ∧ Fm F env vars' P H' s' ∧ Ok P (put H' D (.list out)) s' ∧ Inv n out H'
  | .error _ => False
theorem comp_loop {B : Base} {k : Nat} {F : FI} {it : Value} {n : Nat} {J : Nat → Foot → Prop} {Req : Hp → Prop} {Item : Nat → Hp → V → Hp → Prop} {A : Around} (I : Iter B k A it n J Req Item) (hn : n ≤ sizeLine) {elt target ie : PySem.Expr} {ifs : List PySem.Expr} {scope : Scope} {pos : Pos} {vs0 : List (Option V)}
    (hv : vs0.all (·.isNone) = true) (Inv : Nat → List V → Hp → Prop) (req : ∀ i v H, Inv i v H → Req H)
    (turn : ∀ i out H v H1, i < n → Inv i out H → Item i H v H1 → WA B k F target v vs0 H1 fun v2 H2 => WIf B k F ifs v2 H2 fun b H3 => (b = true → WE B k F elt v2 H3 fun x H4 => Inv (i + 1) (out ++ [x]) H4) ∧ (b = false → Inv (i + 1) out H3))
    {env : Env} {P : Pr} {f : Foot} {vars : List (Option V)} {H : Hp} {s : Shared} {D : Addr} {c0 : Nat} (r : Room k A) (ib : B.In P) (hD : P.obj D = none) (fm : Fm F env vars (P.put D (accObj #[] c0)) H s) (o : Ok ((P.put D (accObj #[] c0)).with f) H s) (d : Dis (P.put D (accObj #[] c0)) f) (hl : f.obj env.locals = none) (j : J 0 f) (h : Inv 0 [] H) :
    codeAny B.M A (.compLoop (.ListComp elt [⟨target, ie, ifs, 0⟩] scope pos) 0 it (.ref D) env) (CompOut n Inv P D F env) s := by
  refine codeAny_loop rfl (CompSt n J Inv P D F env) ?_ (n - 0) ⟨0, f, [], [], c0, vars, H, Nat.zero_le _, rfl, Nat.le_refl _, .nil, fm, o, d, hl, j, h⟩
  rintro m s ⟨i, f, out, outv, c, vars, H, hi, rfl, hlen, ao, fm, o, d, hl, j, h⟩
  show wpAny _ _ ((compTurn (.ListComp elt [⟨target, ie, ifs, 0⟩] scope pos) 0 it (.ref D) env).onRaise (fun x => do noteFrame x env; theTreesLotGoes x)) _ _ s
  refine wpAny_noted ?_
  rw [compTurn_list]
  have hA : A.under (.compLoop (.ListComp elt [⟨target, ie, ifs, 0⟩] scope pos) 0 it (.ref D) env) = A := rfl
  rw [hA]
  have ibP : B.In (P.put D (accObj outv.toArray c)) := fun a x e => by
    have : a ≠ D := by rintro rfl; have := ib a x e; rw [hD] at this; cases this
    rw [Pr.put_ne _ _ this]; exact ib a x e
  obtain ⟨P', hP, d', o', back⟩ := fm.guardF o d hl
  have ib' : B.In P' := fun a x e => hP a x (ibP a x e)
  refine wpAny_bind (wpAny_standAt (wpAny_bind ?_))
  have hlD : env.locals ≠ D := by
    rintro e
    have := fm.locP
    rw [e, Pr.put_self] at this; cases this
  have clean : ∀ {vars : List (Option V)} {H s} {ob : Obj}, Fm F env vars (P.put D ob) H s → Fm F env vs0 (P.put D ob) H s := fun K => ⟨K.sc, K.kind, K.glob, K.blt, K.nd, K.loc, K.cel, K.locP, K.locH,
    let ⟨m, a, _⟩ := K.ns; ⟨m, a, fun i x v _ hw => by have := List.all_eq_true.mp hv _ (List.mem_of_getElem? hw); cases this⟩, K.cells, K.coro⟩
  by_cases hlt : i < n
  · refine noE (I.next i f P' H s hlt j ib' d' r o' (req _ _ _ h)) ?_
    rintro _ s1 ⟨val, v, f1, H1, rfl, iv, j1, d1, o1, it1⟩
    obtain ⟨fm2, d2, o2, hl2⟩ := back _ _ _ d1 o1
    refine wpAny_bind (noE (I.quiet (i + 1) f1 _ H1 s1 target val j1 o2) ?_)
    rintro _ _ rfl
    have fmw : ∀ {vars H s}, Fm F env vars (P.put D (accObj outv.toArray c)) H s → Fm F env vars ((P.put D (accObj outv.toArray c)).with f1) H s := fun K => K.mono (fun _ e => e) (fun _ => K.locH) fun _ => by
      show (f1.obj env.locals).or ((P.put D (accObj outv.toArray c)).obj env.locals) = none
      rw [hl2]; exact K.locP
    have fmb : ∀ {vars H s}, Fm F env vars ((P.put D (accObj outv.toArray c)).with f1) H s → Fm F env vars (P.put D (accObj outv.toArray c)) H s := fun K => K.mono (fun _ e => e) (fun _ => K.locH) fun _ => by
      have := K.locP
      have : (f1.obj env.locals).or ((P.put D (accObj outv.toArray c)).obj env.locals) = none := this
      rw [hl2] at this; exact this
    refine wpAny_bind (noE (turn i out H v H1 hlt h it1 A env _ _ val r (ibP.with d2) (fmw (clean fm2)) o2 iv) ?_)
    rintro _ s2 ⟨v2, H2, fm3, o3, h3⟩
    -- the tests, then what the turn leaves
    have fin : ∀ s3 (b : Bool) H3, Fm F env v2 ((P.put D (accObj outv.toArray c)).with f1) H3 s3 → Ok ((P.put D (accObj outv.toArray c)).with f1) H3 s3 → ((b = true → WE B k F elt v2 H3 fun x H4 => Inv (i + 1) (out ++ [x]) H4) ∧ (b = false → Inv (i + 1) out H3)) →
        wpAny B.M A (if b = true then ((eval elt env >>= fun x => PySem.call (.builtin "list.append") [.ref D, x] >>= fun _ => pure ()) >>= fun _ => PySem.again (.compLoop (.ListComp elt [⟨target, ie, ifs, 0⟩] scope pos) 0 it (.ref D) env)) else PySem.again (.compLoop (.ListComp elt [⟨target, ie, ifs, 0⟩] scope pos) 0 it (.ref D) env))
          (fun fin s' => (match fin with | .done f => CompOut n Inv P D F env (.ok f) s' | .again c' => c' = (.compLoop (.ListComp elt [⟨target, ie, ifs, 0⟩] scope pos) 0 it (.ref D) env) ∧ ∃ m, m < n - i ∧ CompSt n J Inv P D F env m s'))
          (fun _ _ => False) s3 := by
      intro s3 b H3 fm4 o4 hb
      cases b with
      | false =>
        rw [if_neg Bool.false_ne_true]
        exact wpAny_pure ⟨rfl, n - (i + 1), by omega, i + 1, f1, out, outv, c, v2, H3, hlt, rfl, Nat.le_succ_of_le hlen, ao, fmb fm4, o4, d2, hl2, j1, hb.2 rfl⟩
      | true =>
        rw [if_pos rfl]
        refine wpAny_bind (wpAny_bind (wpAny_mono (hb.1 rfl A env _ s3 r (ibP.with d2) fm4 o4) ?_ fun _ _ e => e))
        rintro x s4 ⟨xv, H4, ix, fm5, o5, h5⟩
        have hDo : s4.heap.get? D = some (accObj outv.toArray c) := o5.prot D _ (Pr.with_of d2 (Pr.put_self _ _ _))
        refine wpAny_bind (wpAny_list_append_plain ⟨c, hDo⟩ (fun h' hpl hs => ?_) (by simp only [List.size_toArray]; rw [← ao.length]; omega))
        obtain ⟨c', e'⟩ := hpl
        have e2 : (outv.toArray.push x) = (outv ++ [x]).toArray := by simp
        rw [e2] at e'
        have hHD : H4 D = none := o5.dis D _ (Pr.with_of d2 (Pr.put_self _ _ _))
        have hfD : f1.obj D = none := by
          cases q : f1.obj D with
          | none => rfl
          | some y => have := d2.obj D y q; rw [Pr.put_self] at this; cases this
        have o6 := o5.updP (Pr.with_of d2 (Pr.put_self _ _ _)) hs e' s4.toks
        have d6 : Dis (P.put D (accObj (outv ++ [x]).toArray c')) f1 := ⟨fun a y q => by
          have : a ≠ D := by rintro rfl; rw [hfD] at q; cases q
          rw [Pr.put_ne _ _ this]; have z := d2.obj a y q; rw [Pr.put_ne _ _ this] at z; exact z, d2.gen⟩
        have o7 : Ok ((P.put D (accObj (outv ++ [x]).toArray c')).with f1) H4 { s4 with heap := h', toks := s4.toks } := o6.weak (fun a y q => by
          have q' : (f1.obj a).or ((P.put D (accObj (outv ++ [x]).toArray c')).obj a) = some y := q
          show (if a = D then some (accObj (outv ++ [x]).toArray c') else (f1.obj a).or ((P.put D (accObj outv.toArray c)).obj a)) = some y
          by_cases e : a = D
          · subst e; rw [hfD, Option.none_or, Pr.put_self] at q'; rw [if_pos rfl]; exact q'
          · rw [if_neg e, Pr.put_ne _ _ e]; rw [Pr.put_ne _ _ e] at q'; exact q') (fun _ _ h => h) (fun _ _ h => h) rfl
        have fm6 : Fm F env v2 (P.put D (accObj (outv ++ [x]).toArray c')) H4 { s4 with heap := h', toks := s4.toks } := (fmb fm5).mono (fun _ e => (hs.2 _ hlD).trans e) (fun _ => fm5.locH) fun _ => by
          have := (fmb fm5).locP
          rw [Pr.put_ne _ _ hlD] at this ⊢; exact this
        exact wpAny_pure <| wpAny_pure ⟨rfl, n - (i + 1), by omega, i + 1, f1, out ++ [xv], outv ++ [x], c', v2, H4, hlt, rfl, by simp; omega, ao.append (.cons ix .nil), fm6, o7, d6, hl2, j1, h5⟩
    match ifs, h3, fin with
    | [], h3, fin =>
      refine wpAny_bind (wpAny_pure ?_)
      exact noE (fin s2 true H2 fm3 o3 h3) fun _ _ q => q
    | [cnd], h3, fin =>
      refine wpAny_bind ?_
      rw [List.forIn_cons]
      refine wpAny_bind ?_
      show wpAny _ _ (isTrue cnd env (eval cnd env) >>= fun ok => pure (ForInStep.yield ok)) _ _ _
      refine wpAny_bind (noE (h3 A env _ s2 r (ibP.with d2) fm3 o3) ?_)
      rintro b s3 ⟨H3, fm4, o4, hb⟩
      refine wpAny_pure ?_
      show wpAny _ _ (forIn [] b _) _ _ _
      rw [List.forIn_nil]
      exact wpAny_pure (noE (fin s3 b H3 fm4 o4 hb) fun _ _ q => q)
    | _ :: _ :: _, h3, _ => exact h3.elim
  · have e : i = n := by omega
    subst e
    refine noE (I.done f P' H s j ib' d' r o' (req _ _ _ h)) ?_
    rintro _ s1 ⟨rfl, o1⟩
    have z : P'.with ⟨fun _ => none, fun _ => none⟩ = P' := by unfold Pr.with; simp
    obtain ⟨fm2, _, o2, _⟩ := back H s1 ⟨fun _ => none, fun _ => none⟩ ⟨fun _ _ h => (nomatch h), fun _ _ h => (nomatch h)⟩ (by rw [z]; exact o1)
    have z2 : (P.put D (accObj outv.toArray c)).with ⟨fun _ => none, fun _ => none⟩ = P.put D (accObj outv.toArray c) := by unfold Pr.with; simp
    rw [z2] at o2
    refine wpAny_pure ?_
    refine ⟨out, H, vars, o2.dis D _ (Pr.put_self _ _ _), fm2.mono (fun _ e => e) (fun _ => fm2.locH) (fun _ => ?_), o2.reveal hD (.list c ao), h⟩
    have := fm2.locP
    rw [Pr.put_ne _ _ hlD] at this; exact this
end Mine
end
noncomputable section
open PySem PySem.W PyProof.Rows
namespace Mine
/-- the looks at a comprehension's table -/
structure CLooks (scope sc : Scope) (fns : List Str) (names : List Str) (vs0 : List (Option V)) : Prop where
  fr : ((scope.names.filter (·.2 == .free)).map (·.1)) = fns
  fnd : fns.Nodup
  noc : celNames scope.names = []
  kind : scope.kind = .function
  co : scope.isCoroutine = false
  nd : names.Nodup
  lo : locOk scope names = true
  lo' : locOk (relab scope sc) names = true
  ce : celOk scope fns = true
  ce' : celOk (relab scope sc) fns = true
  vs : vs0.all (·.isNone) = true
  nm : (scope.names.all fun x => x.2 != .local || scope.names.lookup x.1 == some .local) = true
theorem relabel_eq (scope : Scope) (env : Env) : relabel scope env = relab scope env.scope := rfl
/-- what a comprehension leaves -/
def CompFin (sz : Nat) (n : Nat) (Inv : Nat → List V → Hp → Prop) (P : Pr) (D C : Addr) (s' : Shared) : Prop :=
  sz ≤ C ∧ ∃ out H' m, H' D = none ∧ Ok P (put H' D (.list out)) s' ∧ Inv n out H' ∧ s'.heap.Ns C m ∧ P.obj C = none ∧ (put H' D (.list out)) C = none
theorem Dis.put {P : Pr} {f : Foot} (d : Dis P f) {D : Addr} (ob : Obj) (h : f.obj D = none) : Dis (P.put D ob) f := ⟨fun a o q => by
  have : a ≠ D := by rintro rfl; rw [h] at q; cases q
  rw [Pr.put_ne _ _ this]; exact d.obj a o q, d.gen⟩
theorem with_put {P : Pr} {f : Foot} {D : Addr} (ob : Obj) (h : f.obj D = none) (a : Addr) : ((P.put D ob).with f).obj a = ((P.with f).put D ob).obj a := by
  show (f.obj a).or (if a = D then some ob else P.obj a) = if a = D then some ob else (f.obj a).or (P.obj a)
  by_cases e : a = D
  · subst e; rw [h, if_pos rfl, if_pos rfl]; rfl
  · rw [if_neg e, if_neg e]
theorem backE {F : FI} {env : Env} {vars : List (Option V)} {P0 P : Pr} (back : ∀ H' s' f', Dis P f' → Ok (P.with f') H' s' → Fm F env vars P0 H' s' ∧ Dis P0 f' ∧ Ok (P0.with f') H' s' ∧ f'.obj env.locals = none) : ∀ H' s', Ok P H' s' → Fm F env vars P0 H' s' ∧ Ok P0 H' s' := fun H' s' o => by
  have z : ∀ P : Pr, P.with ⟨fun _ => none, fun _ => none⟩ = P := fun P => by unfold Pr.with; simp
  obtain ⟨fm2, _, o2, _⟩ := back H' s' ⟨fun _ => none, fun _ => none⟩ ⟨fun _ _ h => (nomatch h), fun _ _ h => (nomatch h)⟩ (by rw [z]; exact o)
  rw [z] at o2
  exact ⟨fm2, o2⟩
theorem comp_start {B : Base} {k : Nat} {F : FI} {it : Value} {n : Nat} {J : Nat → Foot → Prop} {Req : Hp → Prop} {Item : Nat → Hp → V → Hp → Prop} {A : Around} (I : Iter B k A it n J Req Item) (hn : n ≤ sizeLine)
    (self : Self B A it J)
    {elt target ie : PySem.Expr} {ifs : List PySem.Expr} {scope : Scope} {pos : Pos} {fcs : List (Str × Addr)} {names : List Str} {vs0 : List (Option V)}
    (L : CLooks scope F.sc (fcs.map (·.1)) names vs0) (hfc : ∀ p ∈ fcs, p ∈ F.cells)
    (Inv : Nat → List V → Hp → Prop) (req : ∀ i v H, Inv i v H → Req H)
    (turn : ∀ i out H v H1, i < n → Inv i out H → Item i H v H1 → WA B k ⟨relab scope F.sc, names, fcs⟩ target v vs0 H1 fun v2 H2 => WIf B k ⟨relab scope F.sc, names, fcs⟩ ifs v2 H2 fun b H3 => (b = true → WE B k ⟨relab scope F.sc, names, fcs⟩ elt v2 H3 fun x H4 => Inv (i + 1) (out ++ [x]) H4) ∧ (b = false → Inv (i + 1) out H3))
    {env : Env} {vars : List (Option V)} {P0 P : Pr} {f : Foot} {H H0 : Hp} {s0 s : Shared} {R : Value → Addr → Result → Shared → Prop} (r : Room k A) (ib : B.In P) (fm0 : Fm F env vars P0 H0 s0) (o : Ok (P.with f) H s) (d : Dis P f) (j : J 0 f) (h : Inv 0 [] H)
    (hR : ∀ D C s' fl, CompFin s.heap.objs.size n Inv P D C s' → R (.ref D) C (.ok fl) s') :
    wpAny B.M A (newList []) (fun acc s₃ => wpAny B.M A (newFunctionEnv scope env.globals fcs.reverse [] env.qual none .none (some env)) (fun cenv s₄ =>
        codeAny B.M A (.compStart (.ListComp elt [⟨target, ie, ifs, 0⟩] scope pos) 0 it acc { cenv with scope := relabel scope env }) (R acc cenv.locals) s₄) (fun _ _ => False) s₃) (fun _ _ => False) s := by
  refine wpAny_newObj_type ?_ (by show ([] : List Value).toArray.size ≤ sizeLine; simp)
  have hfD : f.obj s.heap.objs.size = none := by
    cases q : f.obj s.heap.objs.size with
    | none => rfl
    | some x => exact absurd (Heap.lt_size (o.foot q)) (Nat.lt_irrefl _)
  have hPD : P.obj s.heap.objs.size = none := (o.drop d).newP
  have o1 : Ok ((P.put s.heap.objs.size (accObj #[] 0)).with f) H { s with heap := s.heap.push (accObj #[] 0) } :=
    (o.pushP (ob := accObj #[] 0) rfl s.toks).weak (fun a x q => by rw [with_put _ hfD] at q; exact q) (fun _ _ h => h) (fun _ _ h => h) rfl
  have d1 := d.put (accObj #[] 0) hfD
  rw [fm0.glob]
  refine env_new (fcs := fcs) (names := names) (vs := vs0) o1 L.kind L.co L.nd L.lo (by rw [L.noc]; exact L.ce) (by rw [L.noc]; exact .nil) L.vs (fun x c hm => by have := lookup_rev (acc := []) L.fnd hm; rwa [List.append_nil] at this)
    (fun x hx => by rw [L.noc] at hx; cases hx) (fun e he => by cases he; exact fm0.blt) fun cs cenv s4 h1 _ _ _ hsc hloc fm o4 => ?_
  rw [L.noc] at h1
  have hcs : cs = [] := List.length_eq_zero_iff.mp h1
  subst hcs
  rw [List.forIn_nil]
  refine wpAny_pure ?_
  have hfl : f.obj cenv.locals = none := by
    have := fm.locP
    have : (f.obj cenv.locals).or ((P.put s.heap.objs.size (accObj #[] 0)).obj cenv.locals) = none := this
    cases q : f.obj cenv.locals with
    | none => rfl
    | some x => rw [q] at this; cases this
  have fm' : Fm ⟨relab scope F.sc, names, fcs⟩ { cenv with scope := relabel scope env } vs0 (P.put s.heap.objs.size (accObj #[] 0)) H s4 := by
    refine ⟨by show relabel scope env = _; rw [relabel_eq, fm0.sc], L.kind, fm.glob, fm.blt, L.nd, L.lo', L.ce', ?_, fm.locH, fm.ns, fun x c hm => fm.cells x c (List.mem_append_right _ hm), L.co⟩
    have := fm.locP
    have : (f.obj cenv.locals).or ((P.put s.heap.objs.size (accObj #[] 0)).obj cenv.locals) = none := this
    rw [hfl] at this; exact this
  have loop : codeAny B.M A (.compLoop (.ListComp elt [⟨target, ie, ifs, 0⟩] scope pos) 0 it (.ref s.heap.objs.size) { cenv with scope := relabel scope env }) (R (.ref s.heap.objs.size) cenv.locals) s4 := by
    refine codeAny_mono (comp_loop I hn L.vs Inv req turn r ib hPD fm' o4 d1 hfl j h) ?_
    rintro (_ | fl) s5 h5
    · exact h5.elim
    · obtain ⟨out, H', vars', hD, fm5, o5, hI⟩ := h5
      obtain ⟨m, hm, _⟩ := fm5.ns
      refine hR _ _ _ _ ⟨by rw [hloc.1]; show s.heap.objs.size ≤ (s.heap.push _).objs.size; rw [Heap.size_push]; exact Nat.le_succ _, out, H', m, hD, o5, hI, hm, fm5.locP, ?_⟩
      have hne : cenv.locals ≠ s.heap.objs.size := by
        rw [hloc.1]
        show (s.heap.push _).objs.size ≠ _
        rw [Heap.size_push]; exact Nat.succ_ne_self _
      rw [put_ne _ _ hne]; exact fm5.locH
  refine codeAny_compStart_list loop (noE (self _ f H s4 j o4) ?_)
  rintro v s5 ⟨rfl, rfl⟩
  exact loop

section
variable {B : Base} {k : Nat} {F : FI} {vars : List (Option V)} {H : Hp}
/-- what holds at each turn, what is made -/
def CompOk (B : Base) (k : Nat) (F' : FI) (vs0 : List (Option V)) (elt target : PySem.Expr) (ifs : List PySem.Expr) (Ψ : Addr → Hp → Prop) (n : Nat) (Req : Hp → Prop) (Item : Nat → Hp → V → Hp → Prop) (H1 : Hp) : Prop :=
  n ≤ sizeLine ∧ ∃ Inv : Nat → List V → Hp → Prop, (∀ i v H, Inv i v H → Req H) ∧ Inv 0 [] H1 ∧
    (∀ i out H v H1, i < n → Inv i out H → Item i H v H1 → WA B k F' target v vs0 H1 fun v2 H2 => WIf B k F' ifs v2 H2 fun b H3 =>
      (b = true → WE B k F' elt v2 H3 fun x H4 => Inv (i + 1) (out ++ [x]) H4) ∧ (b = false → Inv (i + 1) out H3)) ∧
    (∀ out H' D, Inv n out H' → H' D = none → Ψ D (put H' D (.list out)))
theorem WE.comp {elt target ie : PySem.Expr} {ifs : List PySem.Expr} {scope : Scope} {pos : Pos} {Φ : V → Hp → Prop} (fcs : List (Str × Addr)) (names : List Str) (vs0 : List (Option V)) (L : CLooks scope F.sc (fcs.map (·.1)) names vs0) (hfc : ∀ p ∈ fcs, p ∈ F.cells)
    (h : WIt B k F ie vars H (CompOk B k ⟨relab scope F.sc, names, fcs⟩ vs0 elt target ifs fun D H' => Φ (.ref D) H'))
    (hs : ∀ env x, foldedSetIterable ie env x = pure x := by intro _ _; with_unfolding_all rfl) : WE B k F (.ListComp elt [⟨target, ie, ifs, 0⟩] scope pos) vars H Φ := by
  intro A env P0 s r ib0 fm0 o0
  rw [eval_ListComp]
  refine wpAny_comprehension_free (cl := fcs.reverse) rfl (hs env) (closureFor_is L.fr fun p hp => fm0.cells p.1 p.2 (hfc p hp)) L.kind (fun x hx hl => ?_) ?_
  · have := List.all_eq_true.mp L.nm x hx
    rw [hl] at this
    exact eq_of_beq (by simpa using this)
  refine h A env P0 s _ r ib0 fm0 o0 fun it J f n Req Item H1 s2 I self j d0 o20 fm1 hloc hΨ => ?_
  obtain ⟨hn, Inv, hreq, h0, hturn, hfin⟩ := hΨ
  obtain ⟨P, hP, d, o2, back0⟩ := fm1.guardF o20 d0 hloc
  have back := backE back0
  have ib : B.In P := fun a x e => hP a x (ib0 a x e)
  refine comp_start I hn self L hfc Inv hreq hturn r ib fm0 o2 d j h0 fun D C s' fl hf => ?_
  obtain ⟨hCz, out, H', m, hD, o3, hI, hm, hPC, hHC⟩ := hf
  refine ⟨m, hm, fun h' hsb => ?_⟩
  have o4 : Ok P (put H' D (.list out)) { s' with heap := h' } := o3.updN hPC hHC hsb s'.toks
  exact ⟨_, _, .ref D, (back _ _ o4).1, (back _ _ o4).2, hfin _ _ _ hI hD⟩
theorem exec_assign_used {t value : PySem.Expr} {pos : Pos} {env : Env} (hs : swapsWith value (some t) pos.line env = pure true) : exec (.Assign [t] value pos) env = (do
    standAt pos
    evalThenUse value env fun v => assignAll v ((assignEach [t] env).map (·.2))
    pure .next) := by
  rw [arm_exec_Assign]
  have e : swapsWithSole [t] value pos.line env = pure true := hs
  rw [e]; rfl
/-- a name that a comprehension is stored under, before the comprehension's own names go -/
theorem WSs.assignC {x : Str} {p pos cpos : Pos} {elt target ie : PySem.Expr} {ifs : List PySem.Expr} {scope : Scope} {rest : List Stmt} {Φ : Fl → List (Option V) → Hp → Prop} (fcs : List (Str × Addr)) (names : List Str) (vs0 : List (Option V)) (L : CLooks scope F.sc (fcs.map (·.1)) names vs0) (hfc : ∀ p ∈ fcs, p ∈ F.cells)
    (h : WIt B k F ie vars H (CompOk B k ⟨relab scope F.sc, names, fcs⟩ vs0 elt target ifs fun D H' => WSt B k F x (.ref D) vars H' fun v1 H2 => WSs B k F rest v1 H2 Φ))
    (hsw : ∀ env : Env, env.scope = F.sc → swapsWith (.ListComp elt [⟨target, ie, ifs, 0⟩] scope cpos) (some (.Name x p)) pos.line env = pure true)
    (hs : ∀ env x, foldedSetIterable ie env x = pure x := by intro _ _; with_unfolding_all rfl) : WSs B k F (.Assign [.Name x p] (.ListComp elt [⟨target, ie, ifs, 0⟩] scope cpos) pos :: rest) vars H Φ := by
  refine WSs.cons fun A env P0 s r ib0 fm0 o0 => ?_
  rw [exec_assign_used (hsw env fm0.sc)]
  refine wpAny_bind (wpAny_standAt (wpAny_bind ?_))
  show wpAny _ _ (comprehension _ scope env ie.pos (newList []) false (eval ie env) (some _) >>= fun _ => pure ()) _ _ s
  refine wpAny_bind ?_
  refine wpAny_comprehension_free (cl := fcs.reverse) rfl (hs env) (closureFor_is L.fr fun p hp => fm0.cells p.1 p.2 (hfc p hp)) L.kind (fun x hx hl => ?_) ?_
  · have := List.all_eq_true.mp L.nm x hx
    rw [hl] at this
    exact eq_of_beq (by simpa using this)
  refine h A env P0 s _ r ib0 fm0 o0 fun it J f n Req Item H1 s2 I self j d0 o20 fm1 hloc hΨ => ?_
  obtain ⟨hn, Inv, hreq, h0, hturn, hfin⟩ := hΨ
  obtain ⟨P, hP, d, o2, back0⟩ := fm1.guardF o20 d0 hloc
  have back := backE back0
  have ib : B.In P := fun a x e => hP a x (ib0 a x e)
  refine comp_start I hn self L hfc Inv hreq hturn r ib fm0 o2 d j h0 fun D C s' fl hf => ?_
  obtain ⟨hCz, out, H', m, hD, o3, hI, hm, hPC, hHC⟩ := hf
  obtain ⟨fm4, o4⟩ := back _ _ o3
  -- the comprehension's own dict is kept while the name is stored
  obtain ⟨oc, es, ep, hoc, hr⟩ := id hm
  have hP0C : P0.obj C = none := by
    cases q : P0.obj C with
    | none => rfl
    | some x => rw [hP C x q] at hPC; cases hPC
  have hlC : env.locals ≠ C := by
    exact Nat.ne_of_lt (Nat.lt_of_lt_of_le fm1.lt hCz)
  have o5 : Ok (P0.put C oc) (put H' D (.list out)) s' := by
    refine ⟨fun a x q => ?_, o4.objs, fun a x q => ?_, o4.gens, o4.bare, o4.os⟩
    · by_cases e : a = C
      · subst e; rw [Pr.put_self] at q; cases q; exact hoc
      · rw [Pr.put_ne _ _ e] at q; exact o4.prot a x q
    · by_cases e : a = C
      · subst e; exact hHC
      · rw [Pr.put_ne _ _ e] at q; exact o4.dis a x q
  have fm5 : Fm F env vars (P0.put C oc) (put H' D (.list out)) s' := fm4.mono (fun _ e => e) (fun _ => fm4.locH) fun _ => by rw [Pr.put_ne _ _ hlC]; exact fm4.locP
  have ib5 : B.In (P0.put C oc) := fun a x e => by
    have : a ≠ C := by rintro rfl; have := ib0 a x e; rw [hP0C] at this; cases this
    rw [Pr.put_ne _ _ this]; exact ib0 a x e
  have st := hfin _ _ _ hI hD A env (P0.put C oc) s' (.ref D) r ib5 fm5 o5 (.ref D)
  have key : ∀ {Q : Unit → Shared → Prop}, wpAny B.M A (storeName env x (.ref D)) Q (fun _ _ => False) s' → wpAny B.M A (assignAll (.ref D) ((assignEach [.Name x p] env).map (·.2))) Q (fun _ _ => False) s' := fun q => wpAny_assign_Name q
  refine key (noE st ?_)
  rintro _ s6 ⟨v1, H2, fm6, o6, h6⟩
  have hC6 : s6.heap.get? C = some oc := o6.prot C oc (Pr.put_self _ _ _)
  refine ⟨m, ⟨oc, es, ep, hC6, hr⟩, fun h' hsb => ?_⟩
  have hH2C : H2 C = none := o6.dis C oc (Pr.put_self _ _ _)
  have o7 : Ok P0 H2 s6 := o6.weak (fun a x q => by
    have : a ≠ C := by rintro rfl; rw [hP0C] at q; cases q
    rw [Pr.put_ne _ _ this]; exact q) (fun _ _ h => h) (fun _ _ h => h) rfl
  refine wpAny_pure (wpAny_pure ⟨_, _, _, .next, ?_, o7.updN hP0C hH2C hsb s6.toks, h6⟩)
  refine fm6.mono (fun _ e => (hsb.2 _ hlC).trans e) (fun _ => fm6.locH) fun _ => ?_
  have := fm6.locP
  rw [Pr.put_ne _ _ hlC] at this; exact this
end
end Mine
end
noncomputable section
open PySem PySem.W PyProof.Rows
open Sem (wp)
namespace Mine
theorem Room.func {k : Nat} {A : Around} (h : Room (k + 1) A) (b : List Stmt) (env : Env) : Room k (A.over (.func b env) []) := by
  unfold Room at *
  refine ⟨h.1, ?_, ?_, ?_⟩
  · have e : (Code.func b env).guards = [] := rfl
    show pushGuards (Code.func b env).guards (pushGuards (guardsOf ([] : List (Code × Pos))) A.guards) = some []
    rw [e]; exact h.2.1
  · have e : (Code.func b env).weight = 1 := rfl
    show A.depth + frameCount [] + (Code.func b env).weight + k < recursionLimit
    rw [e]; have := h.2.2.1
    show A.depth + 0 + 1 + k < recursionLimit
    omega
  · have e : (Code.func b env).cUnits = 3 := rfl
    show A.units + unitsOf [] + (Code.func b env).cUnits + 16 * k + 80 < cLine
    rw [e, unitsOf_nil]; have := h.2.2.2; omega
theorem Room.loop {k : Nat} {A : Around} (h : Room (k + 1) A) {c : Code} (hg : c.guards = []) (hw : c.weight = 0) (hu : c.cUnits ≤ 4) (b : List Stmt) (env : Env) {kk : Result → Sem Fin} {l kp : List Value} {p : Pos} : Room k (A.over c [.ret kk none false l (.func b env) p kp]) := by
  unfold Room at *
  have e1 : (Code.func b env).guards = [] := rfl
  have e2 : (Code.func b env).weight = 1 := rfl
  have e3 : (Code.func b env).cUnits = 3 := rfl
  have f1 : guardsOf [(Code.func b env, p)] = [] := by rw [guardsOf_cons, e1]; rfl
  have f2 : frameCount [(Code.func b env, p)] = 1 := by rw [frameCount_cons, e2]; rfl
  have f3 : unitsOf [(Code.func b env, p)] = 3 := by rw [unitsOf_cons, e3]; rfl
  refine ⟨?_, ?_, ?_, ?_⟩
  · show (marksOver [.ret kk none false l (.func b env) p kp] (A.handled, A.handled)).1 = none
    rw [h.1]; rfl
  · show pushGuards c.guards (pushGuards (guardsOf [(Code.func b env, p)]) A.guards) = some []
    rw [hg, f1]; exact h.2.1
  · show A.depth + frameCount [(Code.func b env, p)] + c.weight + k < recursionLimit
    rw [f2, hw]; have := h.2.2.1; omega
  · show A.units + unitsOf [(Code.func b env, p)] + c.cUnits + 16 * k + 80 < cLine
    rw [f3]; have := h.2.2.2; omega
section
variable {M : Model} {A : Around} {R : GenEnd} {Y : Protocol} {n : Nat} {s₀ : Shared} {c : Code} {fs : List Frame} {s : Shared} {env : Env}
  {K : Flow → Sem Fin} {H : Value → Sem Fin} {gd : Bool → Bool} {lv : List Value → List Value}
/-- a statement that hands nothing out -/
theorem seg_stmt {st : Stmt} (h : wpAny M (A.over c fs) (exec st env) (fun f s' => Seg M A R Y n s₀ c (K f) fs s') (fun _ _ => False) s) : Seg M A R Y n s₀ c ((exec st env).wrap K H gd lv) fs s :=
  seg_wrap (noE h fun _ _ q => q)
theorem seg_If {test : PySem.Expr} {b1 b2 : List Stmt} {pos : Pos}
    (h : wpAny M (A.over c fs) (isTrue test env (eval test env)) (fun b s' => (b = true → Seg M A R Y n s₀ c ((execs b1 env).wrap K H gd lv) fs s') ∧ (b = false → Seg M A R Y n s₀ c ((execs b2 env).wrap K H gd lv) fs s')) (fun _ _ => False) s) :
    Seg M A R Y n s₀ c ((exec (.If test b1 b2 pos) env).wrap K H gd lv) fs s := by
  rw [exec_If]
  refine seg_at ?_
  show Seg M A R Y n s₀ c ((isTrue test env (eval test env) >>= fun b => if b = true then execs b1 env else execs b2 env).wrap K H gd lv) fs s
  rw [Sem.bind_eq_wrap', Sem.wrap_wrap]
  refine seg_wrap (noE h fun b s' hb => ?_)
  cases b with
  | true => exact hb.1 rfl
  | false => exact hb.2 rfl
/-- how a loop's end goes on -/
def loopK (env : Env) (K : Flow → Sem Fin) (H : Value → Sem Fin) (gd : Bool → Bool) (lv : List Value → List Value) (r : Result) : Sem Fin :=
  ((match r with | .ok f => (.pure f : Sem Flow) | .error e => .raise e).onRaise fun (x : Value) => do
        if (← field x 1) == Value.none then unsupported "frame.own-activation:exception-without-traceback"
        setFlight x env.frame).wrap K H gd lv
theorem loopK_ok (f : Flow) : loopK env K H gd lv (.ok f) = K f := rfl
theorem seg_For {target ie : PySem.Expr} {body orelse : List Stmt} {pos : Pos}
    (h : wpAny M (A.over c fs) (eval ie env) (fun x s' => wpAny M (A.over c fs) (pyIter x) (fun it s'' => ∀ p, Seg M A R Y n s₀ (.forLoop target it body orelse env) (M.den (.forLoop target it body orelse env))
      (.ret (loopK env K H gd lv) none (gd false) (lv []) c p [] :: fs) s'') (fun _ _ => False) s') (fun _ _ => False) s)
    (hs : ∀ x, foldedSetIterable ie env x = pure x := by intro _; with_unfolding_all rfl) :
    Seg M A R Y n s₀ c ((exec (.For target ie body orelse pos) env).wrap K H gd lv) fs s := by
  rw [exec_For]
  refine seg_at ?_
  show Seg M A R Y n s₀ c ((eval ie env >>= fun x => foldedSetIterable ie env x >>= fun x => standAt ie.pos >>= fun _ => holding [x] (pyIter x) >>= fun it => runOwn (.forLoop target it body orelse env) env).wrap K H gd lv) fs s
  rw [Sem.bind_eq_wrap', Sem.wrap_wrap]
  refine seg_wrap (noE h fun x s' hx => ?_)
  rw [hs x]
  show Seg M A R Y n s₀ c (Sem.wrap K H gd lv (standAt ie.pos >>= fun _ => holding [x] (pyIter x) >>= fun it => runOwn (.forLoop target it body orelse env) env)) fs s'
  refine seg_at ?_
  show Seg M A R Y n s₀ c (Sem.wrap K H gd lv (holding [x] (pyIter x) >>= fun it => runOwn (.forLoop target it body orelse env) env)) fs s'
  rw [Sem.bind_eq_wrap', Sem.wrap_wrap]
  refine seg_wrap (wpAny_holding (noE hx fun it s'' hit => ?_))
  exact seg_call hit
end
section
variable {prog : Program} {w : World} {A : Around} {R : GenEnd} {Y : Protocol} {n : Nat} {s₀ : Shared} {fs : List Frame} {s : Shared} {env : Env}
/-- how a loop's turn goes on behind its body -/
def turnK (c : Code) : Flow → Sem Fin
  | .next | .cont => .pure (.again c)
  | .brk => .pure (.done .next)
  | .ret v => .pure (.done (.ret v))
def noteH (env : Env) (e : Value) : Sem Fin := (do noteFrame e env; theTreesLotGoes e : Sem Unit).wrap (fun _ => .raise e) .raise id id
theorem seg_forLoop {target : PySem.Expr} {it : Value} {body : List Stmt}
    (hn : wpAny (model prog w) (A.over (.forLoop target it body [] env) fs) (pyNext it) (fun r s' => match r with
      | none => Seg (model prog w) A R Y n s₀ (.block [] env) (.pure (.done .next)) fs s'
      | some v => wpAny (model prog w) (A.over (.forLoop target it body [] env) fs) (letOwnedTupleGo target it v) (fun _ s1 => wpAny (model prog w) (A.over (.forLoop target it body [] env) fs) (PySem.assign target env v) (fun _ s2 =>
          Seg (model prog w) A R Y n s₀ (.forLoop target it body [] env) ((execs body env).wrap (turnK (.forLoop target it body [] env)) (noteH env) id id) fs s2) (fun _ _ => False) s1) (fun _ _ => False) s') (fun _ _ => False) s) :
    Seg (model prog w) A R Y n s₀ (.forLoop target it body [] env) ((model prog w).den (.forLoop target it body [] env)) fs s := by
  show Seg _ A R Y n s₀ _ ((forTurn target it body [] env).onRaise (fun x => do noteFrame x env; theTreesLotGoes x)) fs s
  unfold forTurn
  rw [Sem.onRaise_eq_wrap]
  refine seg_at ?_
  show Seg _ A R Y n s₀ _ (Sem.wrap _ _ _ _ (((pyNext it).onRaise fun _ => standAt { target.pos with line := 0 }) >>= _)) fs s
  rw [Sem.bind_eq_wrap', Sem.wrap_wrap]
  refine seg_wrap (wpAny_onRaise (wpAny_mono hn (fun r s' hr => ?_) fun _ _ f => f.elim))
  cases r with
  | none =>
    refine seg_again rfl ?_
    exact hr
  | some v =>
    show Seg _ A R Y n s₀ _ (Sem.wrap _ _ _ _ (letOwnedTupleGo target it v >>= _)) fs s'
    rw [Sem.bind_eq_wrap', Sem.wrap_wrap]
    refine seg_wrap (noE hr fun _ s1 h1 => ?_)
    show Seg _ A R Y n s₀ _ (Sem.wrap _ _ _ _ (PySem.assign target env v >>= _)) fs s1
    rw [Sem.bind_eq_wrap', Sem.wrap_wrap]
    refine seg_wrap (noE h1 fun _ s2 h2 => ?_)
    show Seg _ A R Y n s₀ _ (Sem.wrap _ _ _ _ (execs body env >>= _)) fs s2
    rw [Sem.bind_eq_wrap', Sem.wrap_wrap]
    rw [Sem.wrap_congr (execs body env) _ _ (K' := turnK (.forLoop target it body [] env)) (H' := noteH env) (fun f => by cases f <;> rfl)
      (fun e => by
        show (do noteFrame e env; theTreesLotGoes e : Sem Unit).bind (fun _ => .raise e) = _
        rw [Sem.bind_eq_wrap]; rfl)]
    exact h2
end
end Mine
end
noncomputable section
open PySem PySem.W PyProof.Rows
open Sem (wp)
namespace Mine
/-! a generator's signs -/
def escs : Nat → Bool → List Nat → List (Int × Str)
  | _, _, [] => []
  | i, true, c :: r => ((i : Int), ⟨#[92, c]⟩) :: escs (i + 1) false r
  | i, false, c :: r => if c = 92 then escs (i + 1) true r else ((i : Int), ⟨#[c]⟩) :: escs (i + 1) false r
/-- whether a backslash is left over -/
def left : Bool → List Nat → Bool
  | e, [] => e
  | true, _ :: r => left false r
  | false, c :: r => left (decide (c = 92)) r
/-- what is kept -/
structure Kp (own : Addr → Prop) (s s' : Shared) : Prop where
  heap : ∀ (b : Addr) (o : Obj), ¬ own b → s.heap.get? b = some o → s'.heap.get? b = some o
  gens : ∀ (i : Nat) (x : GenState), s.gens[i]? = some x → s'.gens[i]? = some x
  os : s'.os = s.os
theorem Kp.refl (own : Addr → Prop) (s : Shared) : Kp own s s := ⟨fun _ _ _ e => e, fun _ _ e => e, rfl⟩
theorem Kp.trans {own : Addr → Prop} {s s' s'' : Shared} (a : Kp own s s') (b : Kp own s' s'') : Kp own s s'' := ⟨fun x o n e => b.heap x o n (a.heap x o n e), fun i x e => b.gens i x (a.gens i x e), b.os.trans a.os⟩
theorem Kp.weak {own own' : Addr → Prop} {s s' : Shared} (a : Kp own s s') (h : ∀ b, own b → own' b) : Kp own' s s' := ⟨fun x o n e => a.heap x o (fun q => n (h x q)) e, a.gens, a.os⟩
/-- the world about a generator -/
structure Wd (B : Base) (s : Shared) : Prop where
  base : ∀ a o, B.obj a = some o → s.heap.get? a = some o
  bare : AllBare s.gens
def Pe : Pr := { obj := fun _ => none, gen := fun _ => none, os := default }
abbrev H0 : Hp := fun _ => none
/-- all that lives but the frame's own dict -/
def Pall (L : Addr) (s : Shared) : Pr := { obj := fun b => if b = L then none else s.heap.get? b, gen := fun i => s.gens[i]?, os := s.os }
theorem Pall.ok {B : Base} {s : Shared} (w : Wd B s) (L : Addr) : Ok (Pall L s) H0 s :=
  ⟨fun a o h => by
    have h' : (if a = L then none else s.heap.get? a) = some o := h
    split at h'
    · cases h'
    · exact h', fun _ _ h => (nomatch h), fun _ _ _ => rfl, fun _ _ h => h, w.bare, rfl⟩
theorem Pall.in {B : Base} {s : Shared} (w : Wd B s) {L : Addr} (hL : B.obj L = none) : B.In (Pall L s) := fun a o e => by
  show (if a = L then none else s.heap.get? a) = some o
  have : a ≠ L := by rintro rfl; rw [hL] at e; cases e
  rw [if_neg this]; exact w.base a o e
theorem Fm.toAll {F : FI} {env : Env} {vars : List (Option V)} {s : Shared} (f : Fm F env vars Pe H0 s) : Fm F env vars (Pall env.locals s) H0 s := f.mono (fun _ e => e) (fun _ => rfl) fun _ => if_pos rfl
theorem Fm.fromAll {F : FI} {env : Env} {vars : List (Option V)} {P : Pr} {H : Hp} {s : Shared} (f : Fm F env vars P H s) : Fm F env vars Pe H0 s := f.mono (fun _ e => e) (fun _ => rfl) fun _ => rfl
/-- new and alive -/
def New (s s' : Shared) (H : Hp) : Prop := ∀ a o, H a = some o → s.heap.get? a = none ∧ ∃ ob, s'.heap.get? a = some ob ∧ ObIs o ob
theorem Ok.out {B : Base} {s s' : Shared} {F : FI} {env : Env} {vars : List (Option V)} {H : Hp} (w : Wd B s) (hL : B.obj env.locals = none) (f : Fm F env vars (Pall env.locals s) H s') (o : Ok (Pall env.locals s) H s') :
    Kp (fun b => b = env.locals) s s' ∧ Wd B s' ∧ New s s' H ∧ Fm F env vars Pe H0 s' := by
  have kp : Kp (fun b => b = env.locals) s s' := ⟨fun b x n e => o.prot b x (by show (if b = env.locals then none else _) = _; rw [if_neg n]; exact e), fun i x e => o.gens i x e, o.os⟩
  refine ⟨kp, ⟨fun a x e => kp.heap a x (by rintro rfl; rw [hL] at e; cases e) (w.base a x e), o.bare⟩, fun a x e => ?_, f.fromAll⟩
  obtain ⟨ob, h1, h2⟩ := o.objs a x e
  refine ⟨?_, ob, h1, h2⟩
  have ha : a ≠ env.locals := by rintro rfl; rw [f.locH] at e; cases e
  cases q : s.heap.get? a with
  | none => rfl
  | some y =>
    have : (Pall env.locals s).obj a = some y := by show (if a = env.locals then none else _) = _; rw [if_neg ha]; exact q
    rw [o.dis a y this] at e; cases e

section
variable {B : Base} {k : Nat} {F : FI} {A : Around} {env : Env} {vars : List (Option V)} {s : Shared}
theorem run_stmt {st : Stmt} {Ψ : Fl → List (Option V) → Hp → Prop} (h : WS B k F st vars H0 Ψ) (r : Room k A) (f : Fm F env vars Pe H0 s) (w : Wd B s) (hL : B.obj env.locals = none) :
    wpAny B.M A (exec st env) (fun fl s' => ∃ g v H', FlIs g fl ∧ (Kp (fun b => b = env.locals) s s' ∧ Wd B s' ∧ New s s' H' ∧ Fm F env v Pe H0 s') ∧ Ψ g v H') (fun _ _ => False) s := by
  refine noE (h A env _ s r (Pall.in w hL) f.toAll (Pall.ok w _)) ?_
  rintro fl s' ⟨g, v, H', i, f', o', h'⟩
  exact ⟨g, v, H', i, o'.out w hL f', h'⟩
theorem run_test {e : PySem.Expr} {Ψ : Bool → Hp → Prop} (h : WT B k F e vars H0 Ψ) (r : Room k A) (f : Fm F env vars Pe H0 s) (w : Wd B s) (hL : B.obj env.locals = none) :
    wpAny B.M A (isTrue e env (eval e env)) (fun b s' => ∃ H', (Kp (fun b => b = env.locals) s s' ∧ Wd B s' ∧ New s s' H' ∧ Fm F env vars Pe H0 s') ∧ Ψ b H') (fun _ _ => False) s := by
  refine noE (h A env _ s r (Pall.in w hL) f.toAll (Pall.ok w _)) ?_
  rintro b s' ⟨H', f', o', h'⟩
  exact ⟨H', o'.out w hL f', h'⟩
theorem run_expr {e : PySem.Expr} {Ψ : V → Hp → Prop} (h : WE B k F e vars H0 Ψ) (r : Room k A) (f : Fm F env vars Pe H0 s) (w : Wd B s) (hL : B.obj env.locals = none) :
    wpAny B.M A (eval e env) (fun val s' => ∃ v H', Is v val ∧ (Kp (fun b => b = env.locals) s s' ∧ Wd B s' ∧ New s s' H' ∧ Fm F env vars Pe H0 s') ∧ Ψ v H') (fun _ _ => False) s := by
  refine noE (h A env _ s r (Pall.in w hL) f.toAll (Pall.ok w _)) ?_
  rintro val s' ⟨v, H', i, f', o', h'⟩
  exact ⟨v, H', i, o'.out w hL f', h'⟩
theorem run_targets {ts : List PySem.Expr} {vs : List V} {vals : List Value} {Ψ : List (Option V) → Hp → Prop} (h : WAs B k F ts vs vars H0 Ψ) (i : Are vs vals) (r : Room k A) (f : Fm F env vars Pe H0 s) (w : Wd B s) (hL : B.obj env.locals = none) :
    wpAny B.M A (assignInOrder ((assignEach ts env).map (·.2)) vals) (fun _ s' => ∃ v H', (Kp (fun b => b = env.locals) s s' ∧ Wd B s' ∧ New s s' H' ∧ Fm F env v Pe H0 s') ∧ Ψ v H') (fun _ _ => False) s := by
  refine noE (h A env _ s vals r (Pall.in w hL) f.toAll (Pall.ok w _) i) ?_
  rintro _ s' ⟨v, H', f', o', h'⟩
  exact ⟨v, H', o'.out w hL f', h'⟩
end

/-! the protocol -/
def ownOf (L e it : Addr) (b : Addr) : Prop := b = L ∨ b = e ∨ b = it
def genP (own : Addr → Prop) (n : Nat) (s₀ s₁ : Shared) : Prop := n = 1 ∧ Kp own s₀ s₁ ∧ AllBare s₁.gens
abbrev genR (own : Addr → Prop) : GenEnd := fun n s₀ r s₁ => r = .ok (.ret .none) ∧ genP own n s₀ s₁
def genY (B : Base) (its : List (Int × Str)) (L e it : Addr) : Protocol := fun m s₀ v s₁ kap =>
  ∃ t p x ob, its[its.length - m]? = some (p, x) ∧ v = .ref t ∧ s₀.heap.get? t = none ∧ ¬ ownOf L e it t ∧ s₁.heap.get? t = some ob ∧ ObIs (.tup [.int p, .str x]) ob ∧ Kp (ownOf L e it) s₀ s₁ ∧ AllBare s₁.gens ∧
    ∃ ol oe oi, s₁.heap.get? L = some ol ∧ s₁.heap.get? e = some oe ∧ s₁.heap.get? it = some oi ∧
      ∀ s'', s''.heap.get? L = some ol → s''.heap.get? e = some oe → s''.heap.get? it = some oi → Wd B s'' → kap (.send .none) s''

theorem strWalk {prog : Program} {w : World} {e it : Addr} (hne : e ≠ it) (x : Str) (t : Tok) :
    ∃ St Mid, (∀ A : Around, A.handled = none → WalksT prog w A e [e, it] [e, it] x.cps.size (fun i vals => ∃ t' y, (∃ c u, x.cps[i]? = some c ∧ y = .str ⟨#[c]⟩ u) ∧ vals = #[.int i t', y]) St Mid) ∧
      (∀ h, IsEnum h e it 0 .none → h.IsStrIter it (strIterType x) x t 0 → St 0 h) ∧ ∀ i h, St i h → ∃ oe oi, h.get? e = some oe ∧ h.get? it = some oi := by
  by_cases ha : x.cps.all (· < 128) = true
  · refine ⟨_, _, fun A hh => WalksT.enumerateD (Draws.strAscii (prog := prog) (w := w) (A := A.in1) hh it x t) e hne (by simpa using hne) (by simp), fun h a b => ⟨⟨_, a⟩, ?_⟩, fun i h st => ?_⟩
    · have : strIterType x = "str_ascii_iterator" := if_pos ha
      rw [this] at b; exact b
    · obtain ⟨⟨old, a⟩, b⟩ := st
      obtain ⟨o, c, _⟩ := b
      exact ⟨_, o, a, c⟩
  · refine ⟨_, _, fun A hh => WalksT.enumerateD (Draws.strWide (prog := prog) (w := w) (A := A.in1) hh it x t) e hne (by simpa using hne) (by simp), fun h a b => ⟨⟨_, a⟩, ?_⟩, fun i h st => ?_⟩
    · have : strIterType x = "str_iterator" := if_neg ha
      rw [this] at b; exact b
    · obtain ⟨⟨old, a⟩, b⟩ := st
      obtain ⟨o, c, _⟩ := b
      exact ⟨_, o, a, c⟩
end Mine
end
noncomputable section
open PySem PySem.W PyProof.Rows
open Sem (wp)
namespace Mine
/-- what the pieces of such a generator's body do -/
structure GSpec (B : Base) (k : Nat) (F : FI) (x : Str) (n1 n2 fnm anm : Str) (ts : List PySem.Expr) (t1 e1 : PySem.Expr) (s5 : Stmt) (t2 : PySem.Expr) (s6 : Stmt) (e2 t3 : PySem.Expr) : Prop where
  st1 : SetAt F.names [some (.str x), none, none, none] n1 (.int 0) [some (.str x), some (.int 0), none, none]
  st2 : SetAt F.names [some (.str x), some (.int 0), none, none] n2 (.bool false) [some (.str x), some (.int 0), some (.bool false), none]
  fn : F.sc.names.lookup fnm = some .globalImplicit ∧ B.mg fnm = none ∧ B.mb fnm = some (.type "enumerate") ∧ (fnm == ("__debug__" : Str)) = false
  an : At F.names [some (.str x), some (.int 0), some (.bool false), none] anm (.str x) ∧ (anm == ("__debug__" : Str)) = false
  tn : ∀ env, (assignEach ts env).length = 2 ∧ (assignEach ts env).findIdx? (·.1) = none
  tg : ∀ p e c i ch, WAs B k F ts [.int i, .str ch] [some (.str x), p, e, c] H0 fun v _ => v = [some (.str x), some (.int i), e, some (.str ch)]
  t1 : ∀ p e c, WT B k F t1 [some (.str x), p, some (.bool e), c] H0 fun b _ => b = e
  e1 : ∀ i e c, WE B k F e1 [some (.str x), some (.int i), some (.bool e), some (.str ⟨#[c]⟩)] H0 fun v H' => ∃ a, v = .ref a ∧ H' a = some (.tup [.int i, .str ⟨#[92, c]⟩])
  s5 : ∀ p e c, WS B k F s5 [some (.str x), p, e, c] H0 fun fl v _ => fl = .next ∧ v = [some (.str x), p, some (.bool false), c]
  t2 : ∀ p e c, WT B k F t2 [some (.str x), p, e, some (.str ⟨#[c]⟩)] H0 fun b _ => b = decide (c = 92)
  s6 : ∀ p e c, WS B k F s6 [some (.str x), p, e, c] H0 fun fl v _ => fl = .next ∧ v = [some (.str x), p, some (.bool true), c]
  e2 : ∀ i e c, WE B k F e2 [some (.str x), some (.int i), some (.bool e), some (.str ⟨#[c]⟩)] H0 fun v H' => ∃ a, v = .ref a ∧ H' a = some (.tup [.int i, .str ⟨#[c]⟩])
  t3 : ∀ p e c, WT B k F t3 [some (.str x), p, some (.bool e), c] H0 fun b _ => b = e

theorem enum_call {B : Base} {F : FI} {A : Around} {env : Env} {vars : List (Option V)} {s : Shared} {x fnm anm : Str} {p1 p2 p3 : Pos} {Q : Value → Shared → Prop} {E : Value → Shared → Prop}
    (hf : F.sc.names.lookup fnm = some .globalImplicit ∧ B.mg fnm = none ∧ B.mb fnm = some (.type "enumerate") ∧ (fnm == ("__debug__" : Str)) = false) (ha : At F.names vars anm (.str x) ∧ (anm == ("__debug__" : Str)) = false) (f : Fm F env vars Pe H0 s) (w : Wd B s)
    (q : ∀ h' t, IsEnum h' (s.heap.objs.size + 1) s.heap.objs.size 0 .none → h'.IsStrIter s.heap.objs.size (strIterType x) x t 0 → (∀ b o, s.heap.get? b = some o → h'.get? b = some o) → Q (.ref (s.heap.objs.size + 1)) { s with heap := h' }) :
    wpAny B.M A (eval (.Call (.Name fnm p1) [.Name anm p2] [] p3) env) Q E s := by
  rw [arm_eval_Call_Name']
  refine wpAny_bind ?_
  refine Calls.Name_function_global f.fn (by unfold Env.kindOf; rw [f.sc]; exact hf.1) (Calls.loadGlobal_builtin (mg := B.mg) (mb := B.mb) (by rw [f.glob]; exact B.glob _ w.base) hf.2.1 (by rw [f.blt]; exact B.blt _ w.base) hf.2.2.1 ?_) hf.2.2.2
  obtain ⟨j, hn, hv⟩ := ha.1.get
  obtain ⟨m, hm, hl⟩ := f.ns
  obtain ⟨val, ev, ia⟩ := hl j anm _ hn hv
  cases ia with
  | str _ t =>
  refine callWith_any rfl rfl (evalArgs_any rfl ?_)
  show wpAny _ _ (spliced [(false, eval (.Name anm p2) env)]) _ _ _
  refine Calls.spliced_cons (wpAny_Name (wpAny_loadName_local f.fn (f.isLoc hn) hm ev (Calls.spliced_nil ⟨.inl fun _ e => (nomatch e), ?_⟩)) ha.2)
  exact call_enumerate_str fun h' a b _ d => q h' t a b d

section
variable {B : Base} {k : Nat} {F : FI} {x n1 n2 fnm anm : Str} {ts : List PySem.Expr} {t1 e1 : PySem.Expr} {s5 : Stmt} {t2 : PySem.Expr} {s6 : Stmt} {e2 t3 e3 : PySem.Expr}
variable (G : GSpec B k F x n1 n2 fnm anm ts t1 e1 s5 t2 s6 e2 t3)
variable {A : Around} {env : Env} {its : List (Int × Str)} {e it : Addr} {gb : List Stmt} {y1 y2 y3 y4 y5 y6 y8 y9 y10 : Pos} {zk : Nat}
/-- the end of such a body -/
def retK : Flow → Sem Fin := fun f => .pure (.done (.ret (match f with | .ret v => v | _ => .none)))
def retH (env : Env) : Value → Sem Fin := fun e => (leaving env e).wrap (fun _ => .raise e) .raise id id
theorem gen_end {own : Addr → Prop} {n : Nat} {s₀ s : Shared} {Y : Protocol} (hn : n = 1) (kp : Kp own s₀ s) (w : Wd B s) : Seg B.M A (genR own) Y n s₀ (.func gb env) (retK .next) [] s :=
  seg_end (.ok (.ret .none)) ⟨rfl, hn, kp, w.bare⟩
/-- what is handed out -/
theorem gen_yield {s₀ s s1 : Shared} {m : Nat} {H' : Hp} {a : Addr} {p : Int} {y : Str} {v : Value} {kap : Resume → Shared → Prop} {vars : List (Option V)} {F : FI}
    (hits : its[its.length - m]? = some (p, y)) (is : Is (.ref a) v) (ha : H' a = some (.tup [.int p, .str y])) (kp0 : Kp (ownOf env.locals e it) s₀ s) (kp : Kp (fun b => b = env.locals) s s1) (w : Wd B s1) (nw : New s s1 H') (f : Fm F env vars Pe H0 s1)
    (he : ∃ oe, s.heap.get? e = some oe) (hi : ∃ oi, s.heap.get? it = some oi) (hel : e ≠ env.locals) (hil : it ≠ env.locals) (hal : ∃ ol, s.heap.get? env.locals = some ol)
    (hk : ∀ s'', (∀ o, s1.heap.get? env.locals = some o → s''.heap.get? env.locals = some o) → (∀ o, s1.heap.get? e = some o → s''.heap.get? e = some o) → (∀ o, s1.heap.get? it = some o → s''.heap.get? it = some o) → Wd B s'' → kap (.send .none) s'') :
    genY B its env.locals e it m s₀ v s1 kap := by
  cases is
  obtain ⟨hno, ob, hob, hio⟩ := nw a _ ha
  obtain ⟨oe, he⟩ := he
  obtain ⟨oi, hi⟩ := hi
  obtain ⟨ol, hl⟩ := hal
  have he1 := kp.heap e oe hel he
  have hi1 := kp.heap it oi hil hi
  obtain ⟨mm, ⟨ol1, _, _, hl1, _⟩, _⟩ := f.ns
  have hnot : ¬ ownOf env.locals e it a := by
    rintro (rfl | rfl | rfl)
    · rw [hl] at hno; cases hno
    · rw [he] at hno; cases hno
    · rw [hi] at hno; cases hno
  refine ⟨a, p, y, ob, hits, rfl, ?_, hnot, hob, hio, kp0.trans (kp.weak fun b q => .inl q), w.bare, ol1, oe, oi, hl1, he1, hi1, fun s'' a1 a2 a3 w'' => hk s'' (fun o h => by rw [hl1] at h; cases h; exact a1) (fun o h => by rw [he1] at h; cases h; exact a2) (fun o h => by rw [hi1] at h; cases h; exact a3) w''⟩
  cases q : s₀.heap.get? a with
  | none => rfl
  | some z => rw [kp0.heap a z hnot q] at hno; cases hno
theorem Fm.again {vars : List (Option V)} {s1 s'' : Shared} (f : Fm F env vars Pe H0 s1) (h : ∀ o, s1.heap.get? env.locals = some o → s''.heap.get? env.locals = some o) : Fm F env vars Pe H0 s'' := f.mono (fun o e => h o e) (fun _ => rfl) fun _ => rfl
theorem Fm.there {vars : List (Option V)} {s1 : Shared} (f : Fm F env vars Pe H0 s1) : ∃ ol, s1.heap.get? env.locals = some ol := let ⟨_, ⟨ol, _, _, h, _⟩, _⟩ := f.ns; ⟨ol, h⟩
include G in
theorem gen_tail {own : Addr → Prop} {ch p : Option V} {s₀ s : Shared} {n : Nat} {Y : Protocol} (hn : n = 1) (ho : own env.locals)
    (hr : Room k (A.over (.func gb env) [])) (hL : B.obj env.locals = none) (f : Fm F env [some (.str x), p, some (.bool false), ch] Pe H0 s) (w : Wd B s) (kp : Kp own s₀ s) :
    Seg B.M A (genR own) Y n s₀ (.func gb env) ((execs [.If t3 [.Expr (.Yield (some e3) y8) y9] [] y10] env).wrap retK (retH env) id id) [] s := by
  refine seg_execs_cons (seg_If (noE (run_test (G.t3 p false ch) hr f w hL) ?_))
  rintro b s1 ⟨H1, ⟨kp1, w1, nw1, f1⟩, rfl⟩
  refine ⟨fun hb => (nomatch hb), fun _ => ?_⟩
  exact gen_end hn (kp.trans (kp1.weak fun b q => q ▸ ho)) w1
end
end Mine
end
noncomputable section
open PySem PySem.W PyProof.Rows
open Sem (wp)
namespace Mine
section
variable {B : Base} {k : Nat} {F : FI} {x n1 n2 fnm anm : Str} {ts : List PySem.Expr} {t1 e1 : PySem.Expr} {s5 : Stmt} {t2 : PySem.Expr} {s6 : Stmt} {e2 t3 e3 : PySem.Expr}
variable (G : GSpec B k F x n1 n2 fnm anm ts t1 e1 s5 t2 s6 e2 t3)
variable {A : Around} {env : Env} {its : List (Int × Str)} {e it : Addr} {gb : List Stmt} {y1 y2 y3 y4 y5 y6 y8 y9 y10 p q7 : Pos} {zk : Nat}
theorem at_end {α : Type} (pre l : List α) (y : α) {m : Nat} (h : m = l.length + 1) : (pre ++ y :: l)[(pre ++ y :: l).length - m]? = some y := by
  subst h
  have : (pre ++ y :: l).length - (l.length + 1) = pre.length := by simp
  rw [this]; simp
abbrev gBody (t1 e1 : PySem.Expr) (s5 : Stmt) (t2 : PySem.Expr) (s6 : Stmt) (e2 : PySem.Expr) (y1 y2 y3 y4 y5 y6 : Pos) : List Stmt := [.If t1 [.Expr (.Yield (some e1) y1) y2, s5] [.If t2 [s6] [.Expr (.Yield (some e2) y3) y4] y5] y6]
abbrev gTail (t3 e3 : PySem.Expr) (y8 y9 y10 : Pos) : List Stmt := [.If t3 [.Expr (.Yield (some e3) y8) y9] [] y10]
def gK (env : Env) (t3 e3 : PySem.Expr) (y8 y9 y10 : Pos) : Flow → Sem Fin := fun f => match f with
  | .next => (execs (gTail t3 e3 y8 y9 y10) env).wrap retK (retH env) id id
  | f => retK f
include G in
theorem gen_loop {St : Nat → Heap → Prop} {Mid : Nat → Addr → Heap → Prop}
    (W : ∀ A : Around, A.handled = none → WalksT B.prog B.w A e [e, it] [e, it] x.cps.size (fun i vals => ∃ t' y, (∃ c u, x.cps[i]? = some c ∧ y = .str ⟨#[c]⟩ u) ∧ vals = #[.int i t', y]) St Mid)
    (alive : ∀ i h, St i h → ∃ oe oi, h.get? e = some oe ∧ h.get? it = some oi)
    (hA : Room (k + 1) A) (hL : B.obj env.locals = none) (heB : B.obj e = none) (hiB : B.obj it = none) (hel : e ≠ env.locals) (hil : it ≠ env.locals) :
    ∀ (rest : List Nat) (i : Nat) (esc : Bool) (pv ch : Option V) (n : Nat) (s₀ s : Shared) (pre : List (Int × Str)), x.cps.toList.drop i = rest → i ≤ x.cps.size → left esc rest = false → its = pre ++ escs i esc rest → n = (escs i esc rest).length + 1 →
      Fm F env [some (.str x), pv, some (.bool esc), ch] Pe H0 s → Wd B s → Kp (ownOf env.locals e it) s₀ s → St i s.heap →
      Seg B.M A (genR (ownOf env.locals e it)) (genY B its env.locals e it) n s₀ (.forLoop (.Tuple ts zk q7) (.ref e) (gBody t1 e1 s5 t2 s6 e2 y1 y2 y3 y4 y5 y6) [] env) (B.M.den (.forLoop (.Tuple ts zk q7) (.ref e) (gBody t1 e1 s5 t2 s6 e2 y1 y2 y3 y4 y5 y6) [] env))
        [.ret (loopK env (gK env t3 e3 y8 y9 y10) (retH env) id id) none false [] (.func gb env) p []] s := by
  intro rest
  have key : ∀ s h' tk, Wd B s → (∀ b o, b ∉ [e, it] → s.heap.get? b = some o → h'.get? b = some o) → Kp (ownOf env.locals e it) s { s with heap := h', toks := tk } ∧ Wd B { s with heap := h', toks := tk } := fun s h' tk w hk =>
    ⟨⟨fun b o nb eb => hk b o (fun hm => nb (by rcases List.mem_cons.mp hm with rfl | hm; exact .inr (.inl rfl); exact .inr (.inr (List.mem_singleton.mp hm)))) eb, fun _ _ h => h, rfl⟩,
     ⟨fun a o ho => hk a o (fun hm => by
      rcases List.mem_cons.mp hm with rfl | hm
      · rw [heB] at ho; cases ho
      · rw [List.mem_singleton.mp hm, hiB] at ho; cases ho) (w.base a o ho), w.bare⟩⟩
  induction rest with
  | nil =>
    intro i esc pv ch n s₀ s pre hd hi hle hpre hn f w kp st
    have hr : Room k (A.over (.forLoop (.Tuple ts zk q7) (.ref e) (gBody t1 e1 s5 t2 s6 e2 y1 y2 y3 y4 y5 y6) [] env) [.ret (loopK env (gK env t3 e3 y8 y9 y10) (retH env) id id) none false [] (.func gb env) p []]) := Room.loop hA rfl rfl (Nat.le_of_ble_eq_true rfl) gb env
    have hisz : i = x.cps.size := by
      have := List.drop_eq_nil_iff.mp hd
      simp at this; omega
    subst hisz
    have hesc : esc = false := by cases esc <;> first | rfl | cases hle
    subst hesc
    refine seg_forLoop ((W _ hr.1).done s _ _ st fun h' tk hk => ?_)
    obtain ⟨kp1, w1⟩ := key s h' tk w hk
    refine seg_leaf (.ok .next) ?_
    have f' : Fm F env [some (.str x), pv, some (.bool false), ch] Pe H0 { s with heap := h', toks := tk } := f.again fun o ho => hk _ o (by simp [Ne.symm hel, Ne.symm hil]) ho
    rw [loopK_ok]
    exact gen_tail G (own := ownOf env.locals e it) hn (.inl rfl) (hA.func gb env) hL f' w1 (kp.trans kp1)
  | cons c r ih =>
    intro i esc pv ch n s₀ s pre hd hi hle hpre hn f w kp st
    have hr : Room k (A.over (.forLoop (.Tuple ts zk q7) (.ref e) (gBody t1 e1 s5 t2 s6 e2 y1 y2 y3 y4 y5 y6) [] env) [.ret (loopK env (gK env t3 e3 y8 y9 y10) (retH env) id id) none false [] (.func gb env) p []]) := Room.loop hA rfl rfl (Nat.le_of_ble_eq_true rfl) gb env
    have hlt : i < x.cps.size := by
      rcases Nat.lt_or_ge i x.cps.size with h | h
      · exact h
      · rw [List.drop_of_length_le (by simpa using h)] at hd; cases hd
    have hc : x.cps[i]? = some c := by
      have : x.cps.toList[i]? = some c := by
        have e := congrArg (·[0]?) hd
        simpa using e
      simpa using this
    have hd' : x.cps.toList.drop (i + 1) = r := by
      have : (x.cps.toList.drop i).drop 1 = r := by rw [hd]; rfl
      rwa [List.drop_drop] at this
    refine seg_forLoop ((W _ hr.1).item i s _ _ hlt st fun T vals h1 tk hv hT htup hmid hk1 => ?_)
    obtain ⟨t', y, ⟨c', u, hc', rfl⟩, rfl⟩ := hv
    rw [hc] at hc'; cases hc'
    obtain ⟨kp1, w1⟩ := key s h1 tk w hk1
    have f1 : Fm F env [some (.str x), pv, some (.bool esc), ch] Pe H0 { s with heap := h1, toks := tk } := f.again fun o ho => hk1 _ o (by simp [Ne.symm hel, Ne.symm hil]) ho
    refine (W _ hr.1).go ts zk q7 i T _ _ _ hmid fun h2 st2 hk2 => ?_
    obtain ⟨kp2, w2⟩ := key _ h2 tk w1 hk2
    have f2 : Fm F env [some (.str x), pv, some (.bool esc), ch] Pe H0 { s with heap := h2, toks := tk } := f1.again fun o ho => hk2 _ o (by simp [Ne.symm hel, Ne.symm hil]) ho
    have htup2 : h2.IsTuple T #[.int i t', .str ⟨#[c]⟩ u] := by
      obtain ⟨o, ho, rest⟩ := htup
      exact ⟨o, hk2 T o ((W _ hr.1).apart i T h1 hmid) ho, rest⟩
    refine wpAny_assign_Tuple hr.1 htup2 (by rw [(G.tn env).1]; rfl) (G.tn env).2 fun h3 hx3 => ?_
    have hk3 : ∀ b o, h2.get? b = some o → h3.get? b = some o := fun b o q => hx3 b o (Nat.ne_of_lt (Heap.lt_size q)) q
    have f3 : Fm F env [some (.str x), pv, some (.bool esc), ch] Pe H0 { s with heap := h3, toks := tk } := f2.again fun o ho => hk3 _ o ho
    have w3 : Wd B { s with heap := h3, toks := tk } := ⟨fun a o ho => hk3 a o (w2.base a o ho), w2.bare⟩
    have st3 : St (i + 1) h3 := (W _ hr.1).frame _ _ _ st2 fun b _ o q => hk3 b o q
    have kp3 : Kp (ownOf env.locals e it) s₀ { s with heap := h3, toks := tk } := kp.trans (kp1.trans (kp2.trans ⟨fun b o _ q => hk3 b o q, fun _ _ h => h, rfl⟩))
    refine noE (run_targets (G.tg pv (some (.bool esc)) ch i ⟨#[c]⟩) (.cons (.int _ t') (.cons (.str _ u) .nil)) hr f3 w3 hL) ?_
    rintro _ s4 ⟨v4, H4, ⟨kp4, w4, _, f4⟩, rfl⟩
    have lift : ∀ {s s' : Shared}, Kp (fun b => b = env.locals) s s' → Kp (ownOf env.locals e it) s s' := fun k => k.weak fun b q => .inl q
    have stL : ∀ {j : Nat} {s s' : Shared}, Kp (fun b => b = env.locals) s s' → St j s.heap → St j s'.heap := fun k st => (W _ hr.1).frame _ _ _ st fun b hb o q => k.heap b o (by
      rcases List.mem_cons.mp hb with rfl | hb
      · exact hel
      · rw [List.mem_singleton.mp hb]; exact hil) q
    have st4 := stL kp4 st3
    have kp40 := kp3.trans (lift kp4)
    -- behind a turn
    have onward : ∀ (esc' : Bool) (s₁ s' : Shared) (ch' : Option V) (pre' : List (Int × Str)) (n' : Nat), left esc' r = false → its = pre' ++ escs (i + 1) esc' r → n' = (escs (i + 1) esc' r).length + 1 → Fm F env [some (.str x), some (.int i), some (.bool esc'), ch'] Pe H0 s' → Wd B s' → Kp (ownOf env.locals e it) s₁ s' → St (i + 1) s'.heap →
        Seg B.M A (genR (ownOf env.locals e it)) (genY B its env.locals e it) n' s₁ (.forLoop (.Tuple ts zk q7) (.ref e) (gBody t1 e1 s5 t2 s6 e2 y1 y2 y3 y4 y5 y6) [] env) (.pure (.again (.forLoop (.Tuple ts zk q7) (.ref e) (gBody t1 e1 s5 t2 s6 e2 y1 y2 y3 y4 y5 y6) [] env)))
          [.ret (loopK env (gK env t3 e3 y8 y9 y10) (retH env) id id) none false [] (.func gb env) p []] s' := fun esc' s₁ s' ch' pre' n' a1 a2 a3 a4 a5 a6 a7 =>
      seg_again rfl (ih (i + 1) esc' _ ch' n' s₁ s' pre' hd' hlt a1 a2 a3 a4 a5 a6 a7)
    refine seg_execs_cons (seg_If (noE (run_test (G.t1 (some (.int i)) esc (some (.str ⟨#[c]⟩))) hr f4 w4 hL) ?_))
    rintro b s5 ⟨H5, ⟨kp5, w5, _, f5⟩, rfl⟩
    have st5 := stL kp5 st4
    have kp50 := kp40.trans (lift kp5)
    refine ⟨fun hb => ?_, fun hb => ?_⟩
    · subst hb
      have hlen : n = (escs (i + 1) false r).length + 1 + 1 := by rw [hn]; rfl
      subst hlen
      refine seg_execs_cons ?_
      refine seg_Expr_Yield rfl rfl rfl (wpAny_mono (run_expr (G.e1 i true c) hr f5 w5 hL) ?_ fun _ _ q => q.elim) f5.coro (by unfold interactive; rw [f5.fn]; rfl)
      rintro v s6 ⟨vv, H6, iv, ⟨kp6, w6, nw6, f6⟩, a, rfl, ha⟩ kap hkap
      have st6 := stL kp6 st5
      obtain ⟨oe, oi, he5, hi5⟩ := alive _ _ st5
      refine gen_yield (F := F) ?_ iv ha kp50 kp6 w6 nw6 f6 ⟨oe, he5⟩ ⟨oi, hi5⟩ hel hil f5.there fun s'' a1 a2 a3 w'' => hkap .none s'' ?_
      · rw [hpre]
        exact at_end pre (escs (i + 1) false r) _ rfl
      have st7 : St (i + 1) s''.heap := (W _ hr.1).frame _ _ _ st6 fun b hb o q => by
        rcases List.mem_cons.mp hb with rfl | hb
        · exact a2 o q
        · rw [List.mem_singleton.mp hb] at q ⊢; exact a3 o q
      have f7 := f6.again a1
      refine seg_execs_cons (seg_stmt (noE (run_stmt (G.s5 (some (.int i)) (some (.bool true)) (some (.str ⟨#[c]⟩))) hr f7 w'' hL) ?_))
      rintro fl s8 ⟨g, v8, H8, ifl, ⟨kp8, w8, _, f8⟩, rfl, rfl⟩
      cases ifl
      exact onward false s'' s8 _ (pre ++ [((i : Int), ⟨#[92, c]⟩)]) _ hle (by rw [hpre]; simp [escs]) rfl f8 w8 (lift kp8) (stL kp8 st7)
    · subst hb
      refine seg_execs_cons (seg_If (noE (run_test (G.t2 (some (.int i)) (some (.bool false)) c) hr f5 w5 hL) ?_))
      rintro b s6 ⟨H6, ⟨kp6, w6, _, f6⟩, rfl⟩
      have st6 := stL kp6 st5
      have kp60 := kp50.trans (lift kp6)
      refine ⟨fun hb => ?_, fun hb => ?_⟩
      · have h92 : c = 92 := of_decide_eq_true hb
        refine seg_execs_cons (seg_stmt (noE (run_stmt (G.s6 (some (.int i)) (some (.bool false)) (some (.str ⟨#[c]⟩))) hr f6 w6 hL) ?_))
        rintro fl s8 ⟨g, v8, H8, ifl, ⟨kp8, w8, _, f8⟩, rfl, rfl⟩
        cases ifl
        have hes : escs i false (c :: r) = escs (i + 1) true r := by rw [escs, if_pos h92]
        have hle' : left true r = false := by rw [left, hb] at hle; exact hle
        exact onward true s₀ s8 _ pre n hle' (by rw [hpre, hes]) (by rw [hn, hes]) f8 w8 (kp60.trans (lift kp8)) (stL kp8 st6)
      · have h92 : ¬ c = 92 := of_decide_eq_false hb
        have hes : escs i false (c :: r) = ((i : Int), ⟨#[c]⟩) :: escs (i + 1) false r := by rw [escs, if_neg h92]
        have hle' : left false r = false := by rw [left, hb] at hle; exact hle
        have hlen : n = (escs (i + 1) false r).length + 1 + 1 := by rw [hn, hes]; rfl
        subst hlen
        refine seg_execs_cons ?_
        refine seg_Expr_Yield rfl rfl rfl (wpAny_mono (run_expr (G.e2 i false c) hr f6 w6 hL) ?_ fun _ _ q => q.elim) f6.coro (by unfold interactive; rw [f6.fn]; rfl)
        rintro v s7 ⟨vv, H7, iv, ⟨kp7, w7, nw7, f7⟩, a, rfl, ha⟩ kap hkap
        have st7 := stL kp7 st6
        obtain ⟨oe, oi, he6, hi6⟩ := alive _ _ st6
        refine gen_yield (F := F) ?_ iv ha kp60 kp7 w7 nw7 f7 ⟨oe, he6⟩ ⟨oi, hi6⟩ hel hil f6.there fun s'' a1 a2 a3 w'' => hkap .none s'' ?_
        · rw [hpre, hes]
          exact at_end pre (escs (i + 1) false r) _ rfl
        have st8 : St (i + 1) s''.heap := (W _ hr.1).frame _ _ _ st7 fun b hb o q => by
          rcases List.mem_cons.mp hb with rfl | hb
          · exact a2 o q
          · rw [List.mem_singleton.mp hb] at q ⊢; exact a3 o q
        exact onward false s'' s'' _ (pre ++ [((i : Int), ⟨#[c]⟩)]) _ hle' (by rw [hpre, hes]; simp) rfl (f7.again a1) w'' (Kp.refl _ _) st8
end
end Mine
end
noncomputable section
open PySem PySem.W PyProof.Rows
open Sem (wp)
namespace Mine
section
variable {prog : Program} {w : World} {A : Around} {E : Value → Shared → Prop} {s : Shared}
/-- a generator's next -/
theorem next_gen {a : Addr} {g n : Nat} {gs : GenState} {own : Addr → Prop} {Y : Protocol} {Q : Option Value → Shared → Prop} (hh : A.handled = none) (hl : s.heap.NoLimit) (hd : A.depth < recursionLimit) (hg : s.heap.IsGen a g) (hs : s.gens[g]? = some gs)
    (go : gs.Goes (model prog w) A.in1 (genR own) Y n (.send .none) (s.setGen g .running))
    (out : ∀ v s₁ gs', gs'.bare = true → Y (n - 1) (s.setGen g .running) v s₁ (fun r' s'' => match n with | 0 => False | m + 1 => gs'.Goes (model prog w) A.in1 (genR own) Y m r' s'') → Q (some v) (s₁.setGen g gs'))
    (fin : ∀ s₁, genP own n (s.setGen g .running) s₁ → ∀ h', (∀ b o, s₁.heap.get? b = some o → h'.get? b = some o) → Q none { s₁.setGen g .finished with heap := h' }) :
    wpAny (model prog w) A (pyNext (.ref a)) Q E s := by
  have wake : wpAny (model prog w) A.in1 (Builtin.Generator.genWake (.ref a) (.send .none)) (fun f s' => ∃ v, f = .done (.ret v) ∧ Q (some v) s') (fun x s' => ∃ e, x = .ref e ∧ (∃ o, s'.heap.get? e = some o ∧ o.cls = .type "StopIteration") ∧ Q none s') s := by
    unfold Builtin.Generator.genWake
    refine wpAny_bind (wpAny_holding (wpAny_genNumber hg (wpAny_bind (wpAny_genState hs ?_))))
    have stop : ∀ (jp : PUnit → Sem Fin) s₁, genP own n (s.setGen g .running) s₁ → wpAny (model prog w) A.in1 (newExc (.type "StopIteration") [] >>= fun x => (raiseNew x : Sem PUnit) >>= jp) (fun f s' => ∃ v, f = .done (.ret v) ∧ Q (some v) s')
        (fun x s' => ∃ e, x = .ref e ∧ (∃ o, s'.heap.get? e = some o ∧ o.cls = .type "StopIteration") ∧ Q none s') (s₁.setGen g .finished) := fun jp s₁ hp => by
      simp only [newExc, newTuple]
      refine wpAny_bind (wpAny_bind ?_)
      refine wpAny_newObj_type ?_ (by size_fits)
      refine wpAny_bind (m := firstArgMember _ _) (wpAny_of_eq (a := Value.none) (by first | rfl | (simp only [firstArgMember]; rfl)) ?_)
      refine wpAny_newObj_type ?_ (by size_fits)
      simp only [raiseNew]
      refine wpAny_bind (wpAny_bind (wpAny_handled ?_))
      rw [show A.in1.handled = none from hh]
      exact wpAny_throw ⟨_, rfl, ⟨_, Heap.get?_push_size _ rfl, rfl⟩, fin s₁ hp _ fun b o hb => Heap.get?_push_of_some _ (Heap.get?_push_of_some _ hb)⟩
    have woken : ∀ {k : GenResult → Sem Fin}, (∃ jp, k (.returned .none) = (newExc (.type "StopIteration") [] >>= fun x => (raiseNew x : Sem PUnit) >>= jp)) → (∀ v, k (.yielded v) = ret v) →
        wpAny (model prog w) A.in1 (roomToWake >>= fun _ => .resume g (.send .none) [] k) (fun f s' => ∃ v, f = .done (.ret v) ∧ Q (some v) s') (fun x s' => ∃ e, x = .ref e ∧ (∃ o, s'.heap.get? e = some o ∧ o.cls = .type "StopIteration") ∧ Q none s') s := fun k1 k2 => by
      refine wpAny_bind (wpAny_roomToWake hl hd (wpAny_resumeQ hs go (fun x s₁ hx => ?_) fun v s₁ gs' hb hv => ?_))
      · obtain ⟨rfl, hp⟩ := hx
        obtain ⟨jp, k1⟩ := k1
        have := stop jp s₁ hp
        rw [← k1] at this
        exact this
      · rw [k2]
        exact wpAny_pure ⟨v, rfl, out v s₁ gs' hb hv⟩
    cases gs with
    | running => exact go.elim
    | finished => exact go.elim
    | fresh c => exact woken ⟨_, rfl⟩ fun _ => rfl
    | suspended k₀ l₀ c₀ p₀ fs₀ cl => exact woken ⟨_, rfl⟩ fun _ => rfl
  unfold pyNext
  refine wpAny_bind (wpAny_attempt (wpAny_callSpecial?_slot (name := Str.ofString "__next__") hg.typeIs slot_gen_next
    (wpAny_call_entry slot_gen_next hg.typeIs entry_gen_next ?_ (args_gen_next _))))
  refine wpAny_mono wake ?_ ?_
  · rintro f s' ⟨v, rfl, hq⟩
    exact ⟨v, rfl, wpAny_pure hq⟩
  · rintro x s' ⟨e, rfl, ⟨o, ho, hc⟩, hq⟩
    refine wpAny_bind (wpAny_isInstance (T := "StopIteration") (b := true) ⟨o, ho, hc⟩ isSubtype_stop ?_)
    exact wpAny_pure hq
end
end Mine
end
noncomputable section
open PySem PySem.W PyProof.Rows
open Sem (wp)
namespace Mine
/-- a generator that has handed out i of its things -/
def gnJ (B : Base) (A : Around) (its : List (Int × Str)) (a : Addr) (g : Nat) (L : Addr) (i : Nat) (f : Foot) : Prop :=
  ∃ gs og, f.gen = (fun j => if j = g then some gs else none) ∧ f.obj a = some og ∧ (∃ nm qn, og.cls = .type "generator" ∧ og.data = .fields #[.int g 0, nm, qn] ∧ og.slots = #[]) ∧ a ≠ L ∧ gs.bare = true ∧
    ∀ s, (∀ b o, f.obj b = some o → s.heap.get? b = some o) → Wd B s → ∃ e it, (∀ b, ownOf L e it b → b ≠ a ∧ (f.obj b ≠ none ∨ s.heap.get? b = none)) ∧
      gs.Goes B.M A.in1 (genR (ownOf L e it)) (genY B its L e it) (its.length - i + 1) (.send .none) s
theorem setGen_same {s : Shared} {g : Nat} {x : GenState} (h : g < s.gens.size) : (s.setGen g x).gens[g]? = some x := by
  show (s.gens.setIfInBounds g x)[g]? = some x
  simp [h]
theorem setGen_other {s : Shared} {g j : Nat} {x : GenState} (h : j ≠ g) : (s.setGen g x).gens[j]? = s.gens[j]? := by
  show (s.gens.setIfInBounds g x)[j]? = s.gens[j]?
  rw [Array.getElem?_setIfInBounds, if_neg (Ne.symm h)]
theorem setGen_bare {s : Shared} {g : Nat} {x : GenState} (h : AllBare s.gens) (hx : x.bare = true) : AllBare (s.setGen g x).gens := by
  intro y hy
  have hy' : y ∈ s.gens.setIfInBounds g x := hy
  obtain ⟨i, hi, rfl⟩ := Array.mem_iff_getElem.mp hy'
  have hi' : i < s.gens.size := by simpa using hi
  rw [Array.getElem_setIfInBounds hi']
  split
  · exact hx
  · exact h _ (Array.getElem_mem hi')
theorem iter_gen {B : Base} {k : Nat} {A : Around} {its : List (Int × Str)} {a : Addr} {g : Nat} {L : Addr} :
    Iter B k A (.ref a) its.length (gnJ B A its a g L) (fun _ => True) (fun i H v H' => ∃ t p y, its[i]? = some (p, y) ∧ v = .ref t ∧ H t = none ∧ H' = put H t (.tup [.int p, .str y])) where
  next := by
    rintro i f P H s hi ⟨gs, og, hfg, hfa, ⟨nm, qn, hc, hd, hsl⟩, haL, hb, hgo⟩ ib d r o _
    have hg : f.gen g = some gs := by rw [hfg]; exact if_pos rfl
    have hsg : s.gens[g]? = some gs := o.gens g gs (by show (f.gen g).or _ = _; rw [hg]; rfl)
    have hgz : g < s.gens.size := (Array.getElem?_eq_some_iff.mp hsg).1
    have w : Wd B (s.setGen g .running) := ⟨fun b x q => (ib.with d).heap o b x q, setGen_bare o.bare rfl⟩
    obtain ⟨e, it, hown, go⟩ := hgo (s.setGen g .running) (fun b x q => o.foot q) w
    refine next_gen r.1 (B.limit _ fun b x q => (ib.with d).heap o b x q) r.depth ⟨og, nm, qn, o.foot hfa, hc, hd, hsl⟩ hsg go (fun v s₁ gs' hb' hY => ?_) (fun s₁ hP => ?_)
    · have hm : its.length - i + 1 - 1 = its.length - i := rfl
      obtain ⟨t, p, y, ob, hit, rfl, ht0, htown, ht1, hio, kp, hbare, ol, oe, oi, hl1, he1, hi1, hkap⟩ := hY
      have hii : its.length - (its.length - i) = i := by omega
      rw [hm, hii] at hit
      have hta : s.heap.get? t = none := ht0
      -- what is not its own is kept
      have hP : ∀ b x, P.obj b = some x → ¬ ownOf L e it b := fun b x q ho => by
        rcases (hown b ho).2 with z | z
        · cases zz : f.obj b with
          | none => exact z zz
          | some y => rw [d.obj b y zz] at q; cases q
        · rw [show (s.setGen g .running).heap = s.heap from rfl, (o.drop d).prot b x q] at z; cases z
      have hH : ∀ b x, H b = some x → ¬ ownOf L e it b := fun b x q ho => by
        rcases (hown b ho).2 with z | z
        · cases zz : f.obj b with
          | none => exact z zz
          | some y => rw [o.footH zz] at q; cases q
        · obtain ⟨ob, h1, _⟩ := o.objs b x q
          rw [show (s.setGen g .running).heap = s.heap from rfl, h1] at z; cases z
      have haown : ¬ ownOf L e it a := fun ho => (hown a ho).1 rfl
      have ha1 : s₁.heap.get? a = some og := kp.heap a og haown (o.foot hfa)
      have hna : ∀ b x, s.heap.get? b = some x → b ≠ t := by rintro b x q rfl; rw [q] at hta; cases hta
      have hat : a ≠ t := hna a og (o.foot hfa)
      have hgz1 : g < s₁.gens.size := by
        have := kp.gens g .running (setGen_same hgz)
        exact (Array.getElem?_eq_some_iff.mp this).1
      let f' : Foot := { obj := fun b => if b = a then some og else if b = L then some ol else if b = e then some oe else if b = it then some oi else none, gen := fun j => if j = g then some gs' else none }
      have hf' : ∀ b x, f'.obj b = some x → (b = a ∧ x = og) ∨ (ownOf L e it b ∧ s₁.heap.get? b = some x) := fun b x q => by
        have q' : (if b = a then some og else if b = L then some ol else if b = e then some oe else if b = it then some oi else none) = some x := q
        split at q'
        · exact .inl ⟨‹_›, (Option.some.inj q').symm⟩
        · split at q'
          · subst_vars; cases q'; exact .inr ⟨.inl rfl, hl1⟩
          · split at q'
            · subst_vars; cases q'; exact .inr ⟨.inr (.inl rfl), he1⟩
            · split at q'
              · subst_vars; cases q'; exact .inr ⟨.inr (.inr rfl), hi1⟩
              · cases q'
      have hfL : f'.obj L = some ol := by show (if L = a then _ else _) = _; rw [if_neg (Ne.symm haL), if_pos rfl]
      have hfe : f'.obj e = some oe := by
        show (if e = a then some og else if e = L then some ol else if e = e then some oe else _) = _
        rw [if_neg (hown e (.inr (.inl rfl))).1]
        by_cases q : e = L
        · rw [if_pos q, ← hl1, ← q, he1]
        · rw [if_neg q, if_pos rfl]
      have hfi : f'.obj it = some oi := by
        show (if it = a then some og else if it = L then some ol else if it = e then some oe else if it = it then some oi else _) = _
        rw [if_neg (hown it (.inr (.inr rfl))).1]
        by_cases q : it = L
        · rw [if_pos q, ← hl1, ← q, hi1]
        · rw [if_neg q]
          by_cases q : it = e
          · rw [if_pos q, ← he1, ← q, hi1]
          · rw [if_neg q, if_pos rfl]
      have d' : Dis P f' := ⟨fun b x q => by
          rcases hf' b x q with ⟨rfl, _⟩ | ⟨ho, _⟩
          · exact d.obj _ _ hfa
          · cases z : P.obj b with
            | none => rfl
            | some y => exact absurd ho (hP b y z), fun j y q => by
          have q' : (if j = g then some gs' else none) = some y := q
          split at q'
          · subst_vars; exact d.gen _ _ hg
          · cases q'⟩
      have o' : Ok (P.with f') (put H t (.tup [.int p, .str y])) (s₁.setGen g gs') := by
        refine ⟨fun b x q => ?_, fun b x q => ?_, fun b x q => ?_, fun j x q => ?_, setGen_bare hbare hb', ?_⟩
        · have q' : (f'.obj b).or (P.obj b) = some x := q
          cases z : f'.obj b with
          | none =>
            rw [z, Option.none_or] at q'
            exact kp.heap b x (hP b x q') ((o.drop d).prot b x q')
          | some y =>
            rw [z] at q'; cases q'
            rcases hf' b _ z with ⟨rfl, rfl⟩ | ⟨_, h⟩
            · exact ha1
            · exact h
        · by_cases hbt : b = t
          · subst hbt; rw [put_self] at q; cases q; exact ⟨ob, ht1, hio⟩
          · rw [put_ne _ _ hbt] at q
            obtain ⟨ob, h1, h2⟩ := o.objs b x q
            exact ⟨ob, kp.heap b ob (hH b x q) h1, h2⟩
        · have q' : (f'.obj b).or (P.obj b) = some x := q
          cases z : f'.obj b with
          | none =>
            rw [z, Option.none_or] at q'
            rw [put_ne _ _ (hna b x ((o.drop d).prot b x q'))]
            exact (o.drop d).dis b x q'
          | some y =>
            have hbt : b ≠ t := by
              rcases hf' b _ z with ⟨rfl, rfl⟩ | ⟨h, _⟩
              · exact hat
              · rintro rfl; exact htown h
            rw [put_ne _ _ hbt]
            cases zz : H b with
            | none => rfl
            | some w =>
              rcases hf' b _ z with ⟨rfl, rfl⟩ | ⟨h, _⟩
              · rw [o.footH hfa] at zz; cases zz
              · exact absurd h (hH b w zz)
        · have q' : (if j = g then some gs' else none).or (P.gen j) = some x := q
          by_cases hj : j = g
          · rw [if_pos hj] at q'; cases q'; subst hj; exact setGen_same hgz1
          · rw [if_neg hj, Option.none_or] at q'
            rw [setGen_other hj]
            exact kp.gens j x (by rw [setGen_other hj]; exact (o.drop d).gens j x q')
        · exact kp.os.trans o.os
      refine ⟨.ref t, .ref t, f', _, rfl, .ref t, ⟨gs', og, rfl, if_pos rfl, ⟨nm, qn, hc, hd, hsl⟩, haL, hb', fun s'' hobj w'' => ⟨e, it, fun b ho => ⟨(hown b ho).1, .inl ?_⟩, ?_⟩⟩, d', o', t, p, y, hit, rfl, ?_, rfl⟩
      · rcases ho with rfl | rfl | rfl
        · rw [hfL]; exact fun h => nomatch h
        · rw [hfe]; exact fun h => nomatch h
        · rw [hfi]; exact fun h => nomatch h
      · have := hkap s'' (hobj L _ hfL) (hobj e _ hfe) (hobj it _ hfi) w''
        have e2 : its.length - (i + 1) + 1 = its.length - i := by omega
        rw [e2]
        exact this
      · cases z : H t with
        | none => rfl
        | some x => obtain ⟨ob, h1, _⟩ := o.objs t x z; rw [hta] at h1; cases h1
    · intro h' hk
      obtain ⟨h1, _⟩ := hP
      omega
  done := by
    rintro f P H s ⟨gs, og, hfg, hfa, ⟨nm, qn, hc, hd, hsl⟩, haL, hb, hgo⟩ ib d r o _
    have hg : f.gen g = some gs := by rw [hfg]; exact if_pos rfl
    have hsg : s.gens[g]? = some gs := o.gens g gs (by show (f.gen g).or _ = _; rw [hg]; rfl)
    have hgz : g < s.gens.size := (Array.getElem?_eq_some_iff.mp hsg).1
    have w : Wd B (s.setGen g .running) := ⟨fun b x q => (ib.with d).heap o b x q, setGen_bare o.bare rfl⟩
    obtain ⟨e, it, hown, go⟩ := hgo (s.setGen g .running) (fun b x q => o.foot q) w
    refine next_gen r.1 (B.limit _ fun b x q => (ib.with d).heap o b x q) r.depth ⟨og, nm, qn, o.foot hfa, hc, hd, hsl⟩ hsg go (fun v s₁ gs' hb' hY => ?_) (fun s₁ hP h' hk => ?_)
    · obtain ⟨t, p, y, ob, hit, _⟩ := hY
      have hm : its.length - (its.length - its.length + 1 - 1) = its.length := by omega
      rw [hm, List.getElem?_eq_none (Nat.le_refl _)] at hit
      cases hit
    · obtain ⟨_, kp, hbare⟩ := hP
      refine ⟨rfl, fun b x q => hk b x (kp.heap b x (fun ho => ?_) ((o.drop d).prot b x q)), fun b x q => ?_, (o.drop d).dis, fun j x q => ?_, setGen_bare hbare rfl, kp.os.trans o.os⟩
      · rcases (hown b ho).2 with z | z
        · cases zz : f.obj b with
          | none => exact z zz
          | some y => rw [d.obj b y zz] at q; cases q
        · rw [show (s.setGen g .running).heap = s.heap from rfl, (o.drop d).prot b x q] at z; cases z
      · obtain ⟨ob, h1, h2⟩ := o.objs b x q
        refine ⟨ob, hk b ob (kp.heap b ob (fun ho => ?_) h1), h2⟩
        rcases (hown b ho).2 with z | z
        · cases zz : f.obj b with
          | none => exact z zz
          | some y => rw [o.footH zz] at q; cases q
        · rw [show (s.setGen g .running).heap = s.heap from rfl, h1] at z; cases z
      · have hj : j ≠ g := by rintro rfl; rw [d.gen _ _ hg] at q; cases q
        show (s₁.setGen g .finished).gens[j]? = some x
        rw [setGen_other hj]
        exact kp.gens j x (by rw [setGen_other hj]; exact (o.drop d).gens j x q)
  quiet := by
    rintro i f P H s t v ⟨gs, og, hfg, hfa, ⟨nm, qn, hc, hd, hsl⟩, haL, hb, hgo⟩ o
    exact quiet_of (o.foot hfa) hc (by decide) t v
end Mine
end
noncomputable section
open PySem PySem.W PyProof.Rows
open Sem (wp)
namespace Mine
/-- the shape -/
abbrev gAll (n1 n2 fnm anm : Str) (ts : List PySem.Expr) (t1 e1 : PySem.Expr) (s5 : Stmt) (t2 : PySem.Expr) (s6 : Stmt) (e2 t3 e3 : PySem.Expr) (z1 z2 zk : Nat) (c1 c2 c3 c4 c5 c6 c7 c8 c9 cA cB y1 y2 y3 y4 y5 y6 y8 y9 y10 : Pos) : List Stmt :=
  [.Assign [.Name n1 c1] (.Constant (.int 0) z1 c2) c3, .Assign [.Name n2 c4] (.Constant (.bool false) z2 c5) c6, .For (.Tuple ts zk c7) (.Call (.Name fnm c8) [.Name anm c9] [] cA) (gBody t1 e1 s5 t2 s6 e2 y1 y2 y3 y4 y5 y6) [] cB, .If t3 [.Expr (.Yield (some e3) y8) y9] [] y10]
/-- a def whose body is of that shape -/
def GenDef (B : Base) (a0 : Addr) (k : Nat) : Prop :=
  ∃ (ps : Arguments) (sc : Scope) (gnames : List Str) (pn n1 n2 fnm anm : Str) (ts : List PySem.Expr) (t1 e1 : PySem.Expr) (s5 : Stmt) (t2 : PySem.Expr) (s6 : Stmt) (e2 t3 e3 : PySem.Expr) (z1 z2 zk : Nat) (c1 c2 c3 c4 c5 c6 c7 c8 c9 cA cB y1 y2 y3 y4 y5 y6 y8 y9 y10 : Pos),
    DefAt B a0 ps (gAll n1 n2 fnm anm ts t1 e1 s5 t2 s6 e2 t3 e3 z1 z2 zk c1 c2 c3 c4 c5 c6 c7 c8 c9 cA cB y1 y2 y3 y4 y5 y6 y8 y9 y10) sc .none .none true ∧
    Looks sc gnames [none, none, none, none] ∧ celNames sc.names = [] ∧ (∀ x : Str, Binding B ps .none .none [] [.str x] [(pn, .str x)]) ∧ (∀ x : Str, SetAt gnames [none, none, none, none] pn (.str x) [some (.str x), none, none, none]) ∧
    ∀ x : Str, GSpec B k ⟨sc, gnames, []⟩ x n1 n2 fnm anm ts t1 e1 s5 t2 s6 e2 t3

theorem const_stmt {B : Base} {F : FI} {A : Around} {env : Env} {vars us : List (Option V)} {s : Shared} {n : Str} {c : Const} {v : V} {z : Nat} {c1 c2 c3 : Pos} {Q : Flow → Shared → Prop} {E : Value → Shared → Prop} (hset : SetAt F.names vars n v us)
    (hc : ∀ (s : Shared) (Q : Value → Shared → Prop) (E : Value → Shared → Prop), (∀ val t, Is v val → Q val { s with toks := t }) → wpAny B.M A (eval (.Constant c z c2) env) Q E s)
    (f : Fm F env vars Pe H0 s) (w : Wd B s) (hL : B.obj env.locals = none)
    (q : ∀ h' t, Fm F env us Pe H0 { s with heap := h', toks := t } → Wd B { s with heap := h', toks := t } → Heap.SameBut env.locals s.heap h' → Q .next { s with heap := h', toks := t }) : wpAny B.M A (exec (.Assign [.Name n c1] (.Constant c z c2) c3) env) Q E s := by
  refine wpAny_Assign_Name (hc s _ _ fun val t is => ?_)
  have f' : Fm F env vars (Pall env.locals { s with toks := t }) H0 { s with toks := t } := Fm.toAll (s := { s with toks := t }) (f.again (s'' := { s with toks := t }) fun _ h => h)
  have w' : Wd B { s with toks := t } := ⟨w.base, w.bare⟩
  refine f'.storeLoc (Pall.ok w' _) hset is fun h' t' f2 o2 hs => ?_
  obtain ⟨_, w2, _, f3⟩ := Ok.out w' hL f2 o2
  exact q h' t' f3 w2 hs
theorem gen_start {B : Base} {k : Nat} {A : Around} {F : FI} {x n1 n2 fnm anm : Str} {ts : List PySem.Expr} {t1 e1 : PySem.Expr} {s5 : Stmt} {t2 : PySem.Expr} {s6 : Stmt} {e2 t3 e3 : PySem.Expr} {z1 z2 zk : Nat} {c1 c2 c3 c4 c5 c6 c7 c8 c9 cA cB y1 y2 y3 y4 y5 y6 y8 y9 y10 : Pos}
    (G : GSpec B k F x n1 n2 fnm anm ts t1 e1 s5 t2 s6 e2 t3) (hle : left false x.cps.toList = false) (hA : Room (k + 1) A) {env : Env} (hL : B.obj env.locals = none) {s : Shared} (f : Fm F env [some (.str x), none, none, none] Pe H0 s) (w : Wd B s) :
    Seg B.M A (genR (ownOf env.locals (s.heap.objs.size + 1) s.heap.objs.size)) (genY B (escs 0 false x.cps.toList) env.locals (s.heap.objs.size + 1) s.heap.objs.size) ((escs 0 false x.cps.toList).length + 1) s
      (.func (gAll n1 n2 fnm anm ts t1 e1 s5 t2 s6 e2 t3 e3 z1 z2 zk c1 c2 c3 c4 c5 c6 c7 c8 c9 cA cB y1 y2 y3 y4 y5 y6 y8 y9 y10) env)
      (B.M.den (.func (gAll n1 n2 fnm anm ts t1 e1 s5 t2 s6 e2 t3 e3 z1 z2 zk c1 c2 c3 c4 c5 c6 c7 c8 c9 cA cB y1 y2 y3 y4 y5 y6 y8 y9 y10) env)) [] s := by
  refine seg_func (seg_execs_cons (seg_stmt ?_))
  refine const_stmt (v := .int 0) G.st1 (fun s Q E q => wpAny_Constant_int (q _ _ (.int _ _))) f w hL fun h1 tk1 f1 w1 hs1 => ?_
  refine seg_execs_cons (seg_stmt ?_)
  refine const_stmt (v := .bool false) G.st2 (fun s Q E q => fun _ _ _ => q _ s.toks (.bool false)) f1 w1 hL fun h2 tk2 f2 w2 hs2 => ?_
  have hz : h2.objs.size = s.heap.objs.size := hs2.1.trans hs1.1
  have kp2 : Kp (ownOf env.locals (s.heap.objs.size + 1) s.heap.objs.size) s { s with heap := h2, toks := tk2 } := ⟨fun b o nb eb => ((hs2.2 b fun q => nb (.inl q)).trans (hs1.2 b fun q => nb (.inl q))).trans eb, fun _ _ h => h, rfl⟩
  refine seg_execs_cons (seg_For (enum_call G.fn G.an f2 w2 fun h3 t3 he hi hk => ?_))
  rw [show ({ s with heap := h2, toks := tk2 } : Shared).heap.objs.size = s.heap.objs.size from hz] at he hi ⊢
  refine wpAny_pyIter_enum he fun p => ?_
  have hne : s.heap.objs.size + 1 ≠ s.heap.objs.size := Nat.succ_ne_self _
  obtain ⟨St, Mid, W, hst, alive⟩ := strWalk (prog := B.prog) (w := B.w) hne x t3
  have hLlt : env.locals < s.heap.objs.size := f.lt
  have hfresh : ∀ b, s.heap.objs.size ≤ b → B.obj b = none := fun b hb => by
    cases q : B.obj b with
    | none => rfl
    | some o => exact absurd (Heap.lt_size (w.base b o q)) (Nat.not_lt.mpr hb)
  exact gen_loop G W alive hA hL (hfresh _ (Nat.le_succ _)) (hfresh _ (Nat.le_refl _)) (Nat.ne_of_gt (Nat.lt_succ_of_lt hLlt)) (Nat.ne_of_gt hLlt) x.cps.toList 0 false _ _ _ s _ [] (List.drop_zero ..) (Nat.zero_le _) hle rfl rfl (f2.again fun o h => hk _ o h) ⟨fun a o h => hk a o (w2.base a o h), w2.bare⟩
    (kp2.trans ⟨fun b o _ h => hk b o h, fun _ _ h => h, rfl⟩) (hst _ he hi)

/-- the things that such a generator hands out -/
abbrev EscItem (x : Str) (i : Nat) (H : Hp) (v : V) (H' : Hp) : Prop := ∃ t p y, (escs 0 false x.cps.toList)[i]? = some (p, y) ∧ v = .ref t ∧ H t = none ∧ H' = put H t (.tup [.int p, .str y])
theorem WIt.gen {B : Base} {k : Nat} {F : FI} {vars : List (Option V)} {H : Hp} {gn : Str} {p1 p3 : Pos} {arg : PySem.Expr} {a0 : Addr} {Ψ : Nat → (Hp → Prop) → (Nat → Hp → V → Hp → Prop) → Hp → Prop} (GD : GenDef B a0 k)
    (hgl : F.sc.names.lookup gn = some .globalImplicit) (hm : B.mg gn = some (.ref a0))
    (h : WE B (k + 2) F arg vars H fun v H1 => ∃ x, v = .str x ∧ left false x.cps.toList = false ∧ Ψ (escs 0 false x.cps.toList).length (fun _ => True) (EscItem x) H1)
    (hd : (gn == ("__debug__" : Str)) = false := by decide +kernel) (hs : ∀ env, starEach [arg] env = [(false, eval arg env)] := by intro; with_unfolding_all rfl) : WIt B (k + 2) F (.Call (.Name gn p1) [arg] [] p3) vars H Ψ := by
  obtain ⟨ps, sc, gnames, pn, n1, n2, fnm, anm, ts, t1, e1, s5, t2, s6, e2, t3, e3, z1, z2, zk, c1, c2, c3, c4, c5, c6, c7, c8, c9, cA, cB, y1, y2, y3, y4, y5, y6, y8, y9, y10, D, L, hcn, hbind, hset, G⟩ := GD
  intro A env P s Q r i f o q
  rw [arm_eval_Call_Name']
  refine wpAny_bind ?_
  refine Calls.Name_function_global f.fn (by unfold Env.kindOf; rw [f.sc]; exact hgl) (Calls.loadGlobal_global (mg := B.mg) (by rw [f.glob]; exact B.glob _ (i.heap o)) hm ?_) hd
  obtain ⟨ob, fd, hob, hdat, rfl, hbody, rfl, hg, hcl, hdv, hkd, hbl, hgen, hco, hk, c, oc, cvs, ct, hcd, hoc, hcf, hcq⟩ := D
  refine callWith_any (by rw [hs]; rfl) rfl (evalArgs_any (by rw [hs]; rfl) ?_)
  rw [hs]
  show wpAny _ _ (spliced [(false, eval arg env)]) _ _ _
  refine Calls.spliced_cons (noE (h A env P s r i f o) ?_)
  rintro xv s1 ⟨v, H1, iv, f1, o1, x, rfl, hle, hΨ⟩
  refine Calls.spliced_nil ⟨.inr ⟨a0, ob, fd, rfl, i.heap o1 _ _ hob, hdat⟩, ?_⟩
  obtain ⟨P', hP, hPg, hPo, o1', back⟩ := f1.guard o1
  have ib : B.In P' := fun a x e => hP a x (i a x e)
  obtain ⟨binds, hbi, hba⟩ := hbind x fd P' H1 s1 [] [xv] rfl hdv hkd ib o1' (.cons iv .nil) rfl
  refine wpAny_call (codeAny_call_generator r.depth (ib.heap o1' _ _ hob) hdat hco hgen hbody ⟨c, oc, cvs, ct, hcd, ib.heap o1' _ _ hoc, hcf, hcq⟩ (hbi _ _ _ _ ?_))
  rw [hg, hcl, hbl]
  refine env_new (fcs := []) o1' hk hco L.nd L.lo (by simpa using L.cel) L.cn L.vs (fun _ _ hm => nomatch hm) (fun _ _ hm => nomatch hm) (fun _ e => nomatch e) fun cs genv s2 h1 _ _ _ hsc hloc fg o2 => ?_
  rw [hcn] at h1
  have hcs : cs = [] := List.length_eq_zero_iff.mp h1
  subst hcs
  have eF : (⟨fd.scope, gnames, (celNames fd.scope.names).zip [] ++ []⟩ : FI) = ⟨fd.scope, gnames, []⟩ := by simp
  rw [eF] at fg
  have o2' : Ok P' H1 s2 := o2
  have fg' : Fm ⟨fd.scope, gnames, []⟩ genv [none, none, none, none] P' H1 s2 := fg
  refine noE (WBs.run (k := k + 1) (A := A.in1) (Φ := fun v H' => v = [some (.str x), none, none, none] ∧ H' = H1) r.in1 ib hba fg' o2' (WSt.loc (hset x) ⟨rfl, rfl⟩)) ?_
  rintro _ s3 ⟨gv, H3, f3, o3, rfl, rfl⟩
  refine ⟨B.limit _ (ib.heap o3), ?_⟩
  -- the new generator's foot
  obtain ⟨m, ⟨ol, es, ep, hol, hrest⟩, hvals⟩ := id f3.ns
  have hLlt : genv.locals < s3.heap.objs.size := Heap.lt_size hol
  have hPL : P'.obj genv.locals = none := f3.locP
  have hHL : H3 genv.locals = none := f3.locH
  let og : Obj := { cls := .type "generator", data := .fields #[.int s3.gens.size 0, .str fd.name s3.toks, .str fd.qualname (s3.toks + 1)] }
  let ft : Foot := { obj := fun b => if b = s3.heap.objs.size then some og else if b = genv.locals then some ol else none, gen := fun j => if j = s3.gens.size then some (.fresh (.func (gAll n1 n2 fnm anm ts t1 e1 s5 t2 s6 e2 t3 e3 z1 z2 zk c1 c2 c3 c4 c5 c6 c7 c8 c9 cA cB y1 y2 y3 y4 y5 y6 y8 y9 y10) genv)) else none }
  have hga : s3.heap.objs.size ≠ genv.locals := Nat.ne_of_gt hLlt
  have hft : ∀ b y, ft.obj b = some y → (b = s3.heap.objs.size ∧ y = og) ∨ (b = genv.locals ∧ y = ol) := fun b y z => by
    have z' : (if b = s3.heap.objs.size then some og else if b = genv.locals then some ol else none) = some y := z
    split at z'
    · exact .inl ⟨‹_›, (Option.some.inj z').symm⟩
    · split at z'
      · exact .inr ⟨‹_›, (Option.some.inj z').symm⟩
      · cases z'
  have d : Dis P' ft := ⟨fun b y z => by
    rcases hft b y z with ⟨rfl, _⟩ | ⟨rfl, _⟩
    · exact o3.newP
    · exact hPL, fun j y z => by
    have z' : (if j = s3.gens.size then some (GenState.fresh (.func (gAll n1 n2 fnm anm ts t1 e1 s5 t2 s6 e2 t3 e3 z1 z2 zk c1 c2 c3 c4 c5 c6 c7 c8 c9 cA cB y1 y2 y3 y4 y5 y6 y8 y9 y10) genv)) else none) = some y := z
    split at z'
    · subst_vars
      cases zz : P'.gen s3.gens.size with
      | none => rfl
      | some w => have := o3.gens _ _ zz; rw [Array.getElem?_eq_none (Nat.le_refl _)] at this; cases this
    · cases z'⟩
  have o4 : Ok (P'.with ft) H3 { s3 with gens := s3.gens.push (.fresh (.func (gAll n1 n2 fnm anm ts t1 e1 s5 t2 s6 e2 t3 e3 z1 z2 zk c1 c2 c3 c4 c5 c6 c7 c8 c9 cA cB y1 y2 y3 y4 y5 y6 y8 y9 y10) genv)), toks := s3.toks + 1 + 1, heap := s3.heap.push og } := by
    refine ⟨fun b y z => ?_, fun b y z => ?_, fun b y z => ?_, fun j y z => ?_, o3.bare.push rfl, o3.os⟩
    · have z' : (ft.obj b).or (P'.obj b) = some y := z
      cases zz : ft.obj b with
      | none => rw [zz, Option.none_or] at z'; exact Heap.get?_push_of_some _ (o3.prot b y z')
      | some w =>
        rw [zz] at z'; cases z'
        rcases hft b _ zz with ⟨rfl, rfl⟩ | ⟨rfl, rfl⟩
        · exact Heap.get?_push_size _ rfl
        · exact Heap.get?_push_of_some _ hol
    · obtain ⟨ob, a, b⟩ := o3.objs b y z
      exact ⟨ob, Heap.get?_push_of_some _ a, b⟩
    · have z' : (ft.obj b).or (P'.obj b) = some y := z
      cases zz : ft.obj b with
      | none => rw [zz, Option.none_or] at z'; exact o3.dis b y z'
      | some w =>
        rcases hft b _ zz with ⟨rfl, _⟩ | ⟨rfl, _⟩
        · exact o3.newH
        · exact hHL
    · have z' : (if j = s3.gens.size then some (GenState.fresh (.func (gAll n1 n2 fnm anm ts t1 e1 s5 t2 s6 e2 t3 e3 z1 z2 zk c1 c2 c3 c4 c5 c6 c7 c8 c9 cA cB y1 y2 y3 y4 y5 y6 y8 y9 y10) genv)) else none).or (P'.gen j) = some y := z
      by_cases hj : j = s3.gens.size
      · rw [if_pos hj] at z'; cases z'; subst hj; simp
      · rw [if_neg hj, Option.none_or] at z'
        have := o3.gens j y z'
        have hlt := (Array.getElem?_eq_some_iff.mp this).1
        show (s3.gens.push _)[j]? = some y
        rw [Array.getElem?_push, if_neg hj]; exact this
  have hag : ft.obj s3.heap.objs.size = some og := if_pos rfl
  have hagL : ft.obj genv.locals = some ol := by show (if genv.locals = _ then _ else _) = _; rw [if_neg (Ne.symm hga), if_pos rfl]
  have hBL : B.obj genv.locals = none := by
    cases z : B.obj genv.locals with
    | none => rfl
    | some y => rw [ib _ _ z] at hPL; cases hPL
  have j0 : gnJ B A (escs 0 false x.cps.toList) s3.heap.objs.size s3.gens.size genv.locals 0 ft := by
    refine ⟨_, og, rfl, hag, ⟨_, _, rfl, rfl, rfl⟩, hga, rfl, fun s5 hobj w5 => ⟨s5.heap.objs.size + 1, s5.heap.objs.size, fun b ho => ?_, rfl, ?_⟩⟩
    · have hg5 : s3.heap.objs.size < s5.heap.objs.size := Heap.lt_size (hobj _ _ hag)
      have hno : ∀ b, s5.heap.objs.size ≤ b → s5.heap.get? b = none := fun b hb => by
        cases z : s5.heap.get? b with
        | none => rfl
        | some y => exact absurd (Heap.lt_size z) (Nat.not_lt.mpr hb)
      rcases ho with rfl | rfl | rfl
      · exact ⟨Ne.symm hga, .inl (by rw [hagL]; exact fun h => nomatch h)⟩
      · exact ⟨Nat.ne_of_gt (Nat.lt_succ_of_lt hg5), .inr (hno _ (Nat.le_succ _))⟩
      · exact ⟨Nat.ne_of_gt hg5, .inr (hno _ (Nat.le_refl _))⟩
    · exact gen_start (G x) hle r.in1 hBL (f3.fromAll.again fun o h => by rw [hol] at h; cases h; exact hobj _ _ hagL) w5
  obtain ⟨f4, o4'⟩ := back _ _ (o4.drop d)
  have dP : Dis P ft := ⟨fun b y z => by
    cases zz : P.obj b with
    | none => rfl
    | some w => (have := d.obj b y z; rw [hP b w zz] at this; cases this), fun j y z => by have := d.gen j y z; rw [hPg] at this; exact this⟩
  have o5 : Ok (P.with ft) H3 { s3 with gens := s3.gens.push (.fresh (.func (gAll n1 n2 fnm anm ts t1 e1 s5 t2 s6 e2 t3 e3 z1 z2 zk c1 c2 c3 c4 c5 c6 c7 c8 c9 cA cB y1 y2 y3 y4 y5 y6 y8 y9 y10) genv)), toks := s3.toks + 1 + 1, heap := s3.heap.push og } := o4.weak (fun b y z => by
    have z' : (ft.obj b).or (P.obj b) = some y := z
    show (ft.obj b).or (P'.obj b) = some y
    cases zz : ft.obj b with
    | none => rw [zz, Option.none_or] at z'; rw [Option.none_or]; exact hP b y z'
    | some w => rw [zz] at z'; exact z') (fun _ _ h => h) (fun j y z => by
    have z' : (ft.gen j).or (P.gen j) = some y := z
    show (ft.gen j).or (P'.gen j) = some y
    rw [hPg]; exact z') hPo.symm
  have hloc0 : ft.obj env.locals = none := by
    cases z : ft.obj env.locals with
    | none => rfl
    | some y =>
      rcases hft _ _ z with ⟨e1, _⟩ | ⟨e1, _⟩
      · exact absurd e1 (Nat.ne_of_lt (back _ _ o3).1.lt)
      · have hl1 := f1.lt
        rw [e1, hloc.1] at hl1
        exact absurd hl1 (Nat.lt_irrefl _)
  refine wpAny_pyIter_gen ⟨og, _, _, o4.foot hag, rfl, rfl, rfl⟩ ?_
  refine q _ _ ft _ _ _ H3 _ iter_gen (fun P f H s j o => ?_) j0 dP o5 f4 hloc0 hΨ
  obtain ⟨gs, og', hfg, hfa, ⟨nm, qn, hc, hd, hsl⟩, _⟩ := j
  exact wpAny_pyIter_gen ⟨og', nm, qn, o.foot hfa, hc, hd, hsl⟩ ⟨rfl, rfl⟩
end Mine
end
noncomputable section
open PySem PySem.W PyProof.Rows
namespace Mine
theorem Are.ints : ∀ {ns : List Int} {vs : List Value}, Are (ns.map V.int) vs → IntsAre vs ns
  | [], _, .nil => .nil
  | _ :: _, _, .cons (.int i t) h => .cons i t h.ints
theorem Are.items : ∀ {ns : List Int} {vs : List Value}, Are (ns.map V.int) vs → ∃ xs : List (Int × Tok), vs = xs.map (fun p => Value.int p.1 p.2) ∧ xs.map (·.1) = ns
  | [], _, .nil => ⟨[], rfl, rfl⟩
  | _ :: _, _, .cons (.int i t) h => let ⟨xs, a, b⟩ := h.items; ⟨(i, t) :: xs, by rw [a]; rfl, by rw [← b]; rfl⟩
/-- a list, in the abstract heap or told just so -/
def Lst (H : Hp) (a : Addr) (xs : List V) : Prop := ∀ (P : Pr) (s : Shared), Ok P H s → ∃ vs n, Are xs vs ∧ IsL s.heap a vs.toArray n
theorem Lst.of {H : Hp} {a : Addr} {xs : List V} (h : H a = some (.list xs)) : Lst H a xs := fun _ _ o => o.isL h
theorem Lst.raw {H : Hp} {a : Addr} {xs : List V} {vs : List Value} {n : Nat} (h : H a = some (.raw { cls := .type "list", data := .seq vs.toArray n })) (i : Are xs vs) : Lst H a xs := fun _ _ o => ⟨vs, n, i, o.raw h⟩

/-! items -/
def NotPy (x : Value) (s : Shared) : Prop := ∀ (M : Model) (A : Around) (E : Value → Shared → Prop) (Q : Bool → Shared → Prop), Q false s → wpAny M A (getitemInPython x) Q E s
theorem NotPy.of {x : Value} {s : Shared} {T id : String} (h : s.TypeIs x T) (hl : typeLookup (.type T) "__getitem__" = pure (some (.builtin id))) : NotPy x s := fun M A E Q q => by
  rw [getitemInPython_of_ne h.not_modules]
  refine wpAny_bind (wpAny_specialOf h hl ?_)
  exact wpAny_pure q
/-- an item, a slice -/
def WItem (B : Base) (k : Nat) (a i : V) (H : Hp) (Φ : V → Hp → Prop) : Prop :=
  ∀ A P s x y, Room k A → B.In P → Ok P H s → Is a x → Is i y → NotPy x s ∧ wpAny B.M A (getItem x y) (fun val s' => ∃ v H', Is v val ∧ Ok P H' s' ∧ Φ v H') (fun _ _ => False) s
section
variable {B : Base} {k : Nat} {F : FI} {vars : List (Option V)} {H : Hp} {i j : Int} {x y : Str}
theorem WE.sub {ve ie : PySem.Expr} {pos : Pos} {Φ : V → Hp → Prop} (h : WE B k F ve vars H fun a H1 => WE B k F ie vars H1 fun i H2 => WItem B k a i H2 Φ)
    (hs : ∀ o i, subscripted ie false o i = operate [o, i] (getItem o i) := by intro _ _; with_unfolding_all rfl) : WE B k F (.Subscript ve ie pos) vars H Φ := by
  intro A env P s r ib f o
  rw [eval_Subscript]
  refine wpAny_bind (wpAny_mono (h A env P s r ib f o) ?_ fun _ _ e => e)
  rintro x s1 ⟨a, H1, ia, f1, o1, h1⟩
  refine wpAny_bind (wpAny_holding (wpAny_mono (h1 A env P s1 r ib f1 o1) ?_ fun _ _ e => e))
  rintro y s2 ⟨i, H2, ii, f2, o2, h2⟩
  refine wpAny_bind (wpAny_standAt (wpAny_bind ?_))
  obtain ⟨P', hP, _, _, o', back⟩ := f2.guard o2
  obtain ⟨np, hw⟩ := h2 A P' s2 x y r (fun a o e => hP a o (ib a o e)) o' ia ii
  refine np _ _ _ _ (wpAny_bind ?_)
  rw [hs]
  refine wpAny_operating (wpAny_mono hw ?_ fun _ _ e => e)
  rintro z s3 ⟨v, H3, iv, o3, h3⟩
  exact wpAny_bind (wpAny_letTemporaryGo (wpAny_pure ⟨v, H3, iv, (back _ _ o3).1, (back _ _ o3).2, h3⟩))
/-- a part of a slice -/
def WPt (B : Base) (k : Nat) (F : FI) (e : Option PySem.Expr) (vars : List (Option V)) (H : Hp) (Φ : V → Hp → Prop) : Prop :=
  match e with
  | none => Φ .none H
  | some e => WE B k F e vars H Φ
theorem WPt.run {e : Option PySem.Expr} {Φ : V → Hp → Prop} (h : WPt B k F e vars H Φ) {A : Around} {env : Env} {P : Pr} {s : Shared} (r : Room k A) (ib : B.In P) (f : Fm F env vars P H s) (o : Ok P H s) :
    wpAny B.M A (valueOrNone (evalOpt e env)) (fun val s' => ∃ v H', Is v val ∧ Fm F env vars P H' s' ∧ Ok P H' s' ∧ Φ v H') (fun _ _ => False) s := by
  cases e with
  | none => exact wpAny_pure ⟨_, _, .none, f, o, h⟩
  | some e => rw [arm_evalOpt_some]; exact h A env P s r ib f o
def WSl (B : Base) (k : Nat) (a l u t : V) (H : Hp) (Φ : V → Hp → Prop) : Prop :=
  ∀ A P s x vl vu vt sl, Room k A → B.In P → Ok P H s → Is a x → Is l vl → Is u vu → Is t vt → s.heap.get? sl = some { cls := .type "slice", data := .fields #[vl, vu, vt] } → NotPy x s ∧ wpAny B.M A (getItem x (.ref sl)) (fun val s' => ∃ v H', Is v val ∧ Ok P H' s' ∧ Φ v H') (fun _ _ => False) s
theorem WE.slice {ve : PySem.Expr} {lo hi st : Option PySem.Expr} {p pos : Pos} {Φ : V → Hp → Prop}
    (h : WE B k F ve vars H fun a H1 => WPt B k F lo vars H1 fun l H2 => WPt B k F hi vars H2 fun u H3 => WPt B k F st vars H3 fun t H4 => WSl B k a l u t H4 Φ) : WE B k F (.Subscript ve (.Slice lo hi st p) pos) vars H Φ := by
  intro A env P s r ib f o
  rw [eval_Subscript]
  refine wpAny_bind (wpAny_mono (h A env P s r ib f o) ?_ fun _ _ e => e)
  rintro x s1 ⟨a, H1, ia, f1, o1, h1⟩
  refine wpAny_bind (wpAny_holding ?_)
  rw [arm_eval_Slice]
  refine wpAny_bind (wpAny_mono (h1.run r ib f1 o1) ?_ fun _ _ e => e)
  rintro vl s2 ⟨l, H2, il, f2, o2, h2⟩
  refine wpAny_bind (wpAny_holding (wpAny_mono (h2.run r ib f2 o2) ?_ fun _ _ e => e))
  rintro vu s3 ⟨u, H3, iu, f3, o3, h3⟩
  refine wpAny_bind (wpAny_holding (wpAny_mono (h3.run r ib f3 o3) ?_ fun _ _ e => e))
  rintro vt s4 ⟨t, H4, it, f4, o4, h4⟩
  refine wpAny_newObj_type ?_ (by size_fits)
  refine wpAny_bind (wpAny_standAt (wpAny_bind ?_))
  have f5 := f4.push { cls := .type "slice", data := .fields #[vl, vu, vt] } s4.toks
  have o5 := o4.push { cls := .type "slice", data := .fields #[vl, vu, vt] } s4.toks
  obtain ⟨P', hP, _, _, o', back⟩ := f5.guard o5
  obtain ⟨np, hw⟩ := h4 A P' _ x vl vu vt s4.heap.objs.size r (fun a o e => hP a o (ib a o e)) o' ia il iu it (Heap.get?_push_size _ rfl)
  refine np _ _ _ _ (wpAny_bind ?_)
  have fin : wpAny B.M A (getItem x (.ref s4.heap.objs.size)) (fun r' s' => wpAny B.M A (letTemporaryGo ve x r' >>= fun _ => pure r') (fun val s' => ∃ v H', Is v val ∧ Fm F env vars P H' s' ∧ Ok P H' s' ∧ Φ v H') (fun _ _ => False) s') (fun _ _ => False) { s4 with heap := s4.heap.push { cls := .type "slice", data := .fields #[vl, vu, vt] } } := by
    refine wpAny_mono hw ?_ fun _ _ e => e
    rintro z s5 ⟨v, H5, iv, o5, h5⟩
    exact wpAny_bind (wpAny_letTemporaryGo (wpAny_pure ⟨v, H5, iv, (back _ _ o5).1, (back _ _ o5).2, h5⟩))
  cases st with
  | none => exact wpAny_operating fin
  | some e => exact wpAny_operating fin

/-! lists -/
theorem item_list {a : Addr} {xs : List V} {v : V} {Φ : V → Hp → Prop} (hl : Lst H a xs) (h0 : 0 ≤ i) (h63 : i < 2 ^ 63) (hx : xs[i.toNat]? = some v) (h : Φ v H) : WItem B k (.ref a) (.int i) H Φ := by
  rintro A P s _ _ r ib o ⟨⟩ (_ | _ | _ | ⟨_, t⟩)
  obtain ⟨vs, n, ia, e⟩ := hl P s o
  obtain ⟨w, hw, iw⟩ := ia.get hx
  exact ⟨.of e.isList.typeIs slot_list_getitem.lookup, wpAny_getItem_list e.isList h0 h63 (by simpa using hw) ⟨_, _, iw, o, h⟩⟩
theorem item_str {c : Nat} {Φ : V → Hp → Prop} (h0 : 0 ≤ i) (h63 : i < 2 ^ 63) (hx : x.cps[i.toNat]? = some c) (h : Φ (.str ⟨#[c]⟩) H) : WItem B k (.str x) (.int i) H Φ := by
  rintro A P s _ _ r ib o (_ | _ | _ | _ | _) hi
  cases hi
  refine ⟨.of (typeIs_str _ _ _) F.slot_str_getitem.lookup, PySem.P.getItem_str ?_ (StrLaws.at_nonneg h0 hx) ⟨_, _, .str _ _, o.toks _, h⟩⟩
  rw [decide_eq_false (by omega), decide_eq_false (by omega)]; rfl
/-- a list's item set, the object told just so -/
theorem setItem_L {prog : Program} {w : World} {A : Around} {E : Value → Shared → Prop} {s : Shared} {l : Addr} {items : Array Value} {m : Nat} {k : Int} {t : Tok} {v : Value} {Q : Unit → Shared → Prop} (hl : IsL s.heap l items m) (h0 : 0 ≤ k) (hfit : k < 2 ^ 63) (hn : k < items.size)
    (hQ : Q () { s with heap := s.heap.update l (Obj.mapSeq (·.setIfInBounds k.toNat v)) }) : wpAny (model prog w) A (setItem (.ref l) (.int k t) v) Q E s := by
  have hT := hl.isList.typeIs
  unfold setItem
  try with_reducible refine wpAny_holding ?_
  first | refine wpAny_bind (wpAny_pure ?_) | skip
  refine wpAny_bind (wpAny_sequenceKey hT (by decide) ?_)
  refine wpAny_bind (wpAny_callSpecial?_slot (name := Str.ofString "__setitem__") hT slot_list_setitem (wpAny_call_entry slot_list_setitem hT entry_list_setitem ?_ (args_list_setitem _ _ _)))
  show wpAny _ _ (Builtin.List.listSubscript? (.int k t) >>= _) _ _ s
  refine wpAny_bind (wpAny_listSubscript_int (fitsIndex_of h0 hfit) ?_)
  clear hfit
  obtain ⟨j, rfl⟩ := Int.eq_ofNat_of_zero_le h0
  have hj : j < items.size := by omega
  show wpAny _ _ ((seqItemAt l j >>= fun r => pure (r.map (j, ·))) >>= _) _ _ s
  refine wpAny_bind (wpAny_bind (wpAny_seqItemAt hl rfl (wpAny_pure ?_)))
  rw [Array.getElem?_eq_getElem hj]
  show wpAny _ _ (setSeqItemAt l j v >>= _) _ _ s
  refine wpAny_bind (wpAny_setSeqItemAt hl rfl ?_)
  first
    | exact wpAny_bind (wpAny_pure (wpAny_pure ⟨.none, rfl, wpAny_pure hQ⟩))
    | exact wpAny_pure ⟨.none, rfl, wpAny_pure hQ⟩
theorem set_list {a : Addr} {xs : List V} {v : V} {Φ : Hp → Prop} (hl : H a = some (.list xs)) (h0 : 0 ≤ i) (h63 : i < 2 ^ 63) (hx : i < xs.length) (h : Φ (put H a (.list (xs.set i.toNat v)))) : WSet B k (.ref a) (.int i) v H Φ := by
  rintro A P s _ _ z r ib o ⟨⟩ hi iv
  cases hi
  obtain ⟨vs, n, ia, e⟩ := o.isL hl
  exact setItem_L e h0 h63 (by simpa [← ia.length] using hx) ⟨_, o.mapL hl e _ (us := vs.set i.toNat z) (by simp) (ia.set iv i.toNat) _, h⟩
theorem part_of {l : V} {v : Value} (h : Is l v) {p : Option Int} (hp : l = (match p with | none => .none | some i => .int i)) : IsPart v p := by
  subst hp
  cases p with
  | none => cases h; exact .none
  | some i => cases h; exact .int _ _
def pV (p : Option Int) : V := match p with | none => .none | some i => .int i
theorem sl_list {a : Addr} {xs ys : List V} {lo hi st : Option Int} {Φ : V → Hp → Prop} (hl : Lst H a xs) (hz : xs.length ≤ sizeLine) (h0 : st ≠ some 0)
    (hy : ∀ vs, Are xs vs → ∃ us, slicePick vs.toArray lo hi st = us.toArray ∧ Are ys us) (h : ∀ b, H b = none → Φ (.ref b) (put H b (.list ys))) : WSl B k (.ref a) (pV lo) (pV hi) (pV st) H Φ := by
  rintro A P s _ vl vu vt sl r ib o ⟨⟩ il iu it hs
  obtain ⟨vs, n, ia, e⟩ := hl P s o
  obtain ⟨us, hu, iu'⟩ := hy vs ia
  refine ⟨.of e.isList.typeIs slot_list_getitem.lookup, wpAny_getItem_list_slice e.isList ⟨_, hs, rfl, rfl⟩ (part_of il rfl) (part_of iu rfl) (part_of it rfl) h0 ?_ (by simpa [ia.length] using hz)⟩
  rw [hu]
  exact ⟨_, _, .ref _, o.pushH (.list 0 iu') _, h _ o.newH⟩
theorem sl_upto {a : Addr} {xs : List V} {n : Nat} {Φ : V → Hp → Prop} (hl : Lst H a xs) (hz : xs.length ≤ sizeLine) (h : ∀ b, H b = none → Φ (.ref b) (put H b (.list (xs.take n)))) : WSl B k (.ref a) .none (.int n) .none H Φ :=
  sl_list (lo := none) (hi := some n) (st := none) hl hz (by simp) (fun vs ia => ⟨_, slicePick_upto' _ _, ia.take n⟩) h
theorem sl_run {a : Addr} {xs : List V} {m n : Nat} {Φ : V → Hp → Prop} (hl : Lst H a xs) (hz : xs.length ≤ sizeLine) (hm : m ≤ n) (hn : n ≤ xs.length) (h : ∀ b, H b = none → Φ (.ref b) (put H b (.list ((xs.drop m).take (n - m))))) : WSl B k (.ref a) (.int m) (.int n) .none H Φ :=
  sl_list (lo := some m) (hi := some n) (st := none) hl hz (by simp) (fun vs ia => ⟨_, slicePick_run _ m n (by simpa [ia.length] using hn) hm, (ia.drop m).take _⟩) h
theorem sl_all {a : Addr} {xs : List V} {Φ : V → Hp → Prop} (hl : Lst H a xs) (hz : xs.length ≤ sizeLine) (h : ∀ b, H b = none → Φ (.ref b) (put H b (.list xs))) : WSl B k (.ref a) .none .none .none H Φ :=
  sl_list (lo := none) (hi := none) (st := none) hl hz (by simp) (fun vs ia => ⟨vs, slicePick_all _, ia⟩) h
theorem sl_last {a : Addr} {xs : List V} {Φ : V → Hp → Prop} (hl : Lst H a xs) (hz : xs.length ≤ sizeLine) (h : ∀ b, H b = none → Φ (.ref b) (put H b (.list (xs.drop (xs.length - 1))))) : WSl B k (.ref a) (.int (-1)) .none .none H Φ :=
  sl_list (lo := some (-1)) (hi := none) (st := none) hl hz (by simp) (fun vs ia => ⟨_, slicePick_last _ 1 (Nat.le_refl _), by simpa [ia.length] using ia.drop (xs.length - 1)⟩) h
end
end Mine
end
noncomputable section
open PySem PySem.W PyProof.Rows
namespace Mine
abbrev vI (ns : List Int) : List V := ns.map V.int
abbrev vS (ns : List Str) : List V := ns.map V.str
theorem Are.strz : ∀ {ns : List Str} {vs : List Value}, Are (vS ns) vs → ∃ l : List (Str × Tok), vs = strValues l ∧ l.map (·.1) = ns
  | [], _, .nil => ⟨[], rfl, rfl⟩
  | _ :: _, _, .cons (.str i t) h => let ⟨xs, a, b⟩ := h.strz; ⟨(i, t) :: xs, by rw [a]; rfl, by rw [← b]; rfl⟩
/-- a value's type, for a method -/
def MTy (T : String) (B : Base) (v : V) (H : Hp) : Prop := ∀ (P : Pr) (s : Shared) (val : Value), B.In P → Ok P H s → Is v val → s.TypeIs val T ∧ ∀ a, val = .ref a → ∃ ob, s.heap.get? a = some ob ∧ ob.dict = none
theorem mty_list {B : Base} {H : Hp} {a : Addr} {xs : List V} (h : H a = some (.list xs)) : MTy "list" B (.ref a) H := fun P s val ib o i => by
  cases i
  obtain ⟨vs, n, _, e⟩ := o.isL h
  exact ⟨e.isList.typeIs, fun b e' => by cases e'; exact ⟨_, e, rfl⟩⟩
theorem mty_str {B : Base} {H : Hp} {x : Str} : MTy "str" B (.str x) H := fun P s val ib o i => by
  cases i
  exact ⟨typeIs_str _ _ _, fun b e' => by cases e'⟩
theorem mul_L {prog : Program} {w : World} {A : Around} {E : Value → Shared → Prop} {s : Shared} {l : Addr} {items : Array Value} {k : Nat} {x : Int} {u : Tok} {Q : Value → Shared → Prop} (hl : IsL s.heap l items k)
    (hlo : -(2 ^ 63 : Int) ≤ x) (hhi : x < 2 ^ 63) (hsz : items.size * x.toNat ≤ 2 ^ 24)
    (h : Q (.ref s.heap.objs.size) { s with heap := s.heap.push { cls := .type "list", data := .seq (List.foldl (fun x1 x2 => x1 ++ x2) #[] (List.replicate (if items.isEmpty = true then 0 else x.toNat) items)) } }) :
    wpAny (model prog w) A (binaryOp .Mult (.ref l) (.int x u)) Q E s :=
  wpAny_binaryOp_repeat_ref (T := "list") (U := "int") (by decide) ⟨_, hl, rfl⟩ (fun s' => typeIs_int s' x u) noFill_list_mul PySem.F.fills_int_mul PySem.F.slot_int_rmul repeat_list PySem.F.slot_int_index.lookup
    (call_meets PySem.F.slot_int_rmul (typeIs_int s x u) PySem.F.entry_int_rmul (PySem.F.args_int_rmul_2 _ _) (int___rmul___int_list x u l items k)
      ⟨hl, rfl, ⟨_, hl, rfl⟩, call_meets PySem.F.slot_list_mul ⟨_, hl, rfl⟩ PySem.F.entry_list_mul (PySem.F.args_list_mul_2 _ _)
        (AutoListH.list___mul___list_int_3 l items k x u (by simp [Builtin.List.listFitsIndex]; omega) (by omega) (by simp [Builtin.List.listTooLong, sizeLine]; omega))
        ⟨hl, h⟩⟩)
section
variable {B : Base} {k : Nat} {F : FI} {vars : List (Option V)} {H : Hp} {i j : Int} {x y : Str}
theorem WE.meth {oe : PySem.Expr} {name : Str} {p pos : Pos} {es : List PySem.Expr} {T id : String} {Φ : V → Hp → Prop} (pa : PlainAttrs T) (slot : Slot T name id) (hty : typeOf (.builtin id) = pure (.type "method_descriptor"))
    (h : WE B k F oe vars H fun a H1 => MTy T B a H1 ∧ WEs B k F es vars H1 fun vs H2 => WC B k (.builtin id) (a :: vs) H2 Φ)
    (hb : ∀ env, attributeBase oe name env (eval oe env) = eval oe env := by intro; with_unfolding_all rfl) (hline : (p.endLine == pos.line) = true := by with_unfolding_all rfl)
    (hp : ∀ env, (starEach es env).any (·.1) = false := by intro; with_unfolding_all rfl)
    (hfew : ∀ env, ((backTo pos (starEach es env)).all (fun x => !x.1) && (backToKw pos (keywordEach [] env)).all (fun x => x.1.isSome) && decide (es.length + ([] : List Keyword).length + (if ([] : List Keyword).isEmpty then 0 else 1) < 30)) = true := by intro; with_unfolding_all rfl) :
    WE B k F (.Call (.Attribute oe name p) es [] pos) vars H Φ := by
  intro A env P s rm ib f o
  refine wpAny_Call_method (hb env) (hfew env) hline pa slot hty ?_
  refine noE (h A env P s rm ib f o) ?_
  rintro val s1 ⟨v, H1, ia, f1, o1, ht, h1⟩
  obtain ⟨t1, t2⟩ := ht P s1 val ib o1 ia
  refine ⟨t1, t2, callWith_any (backTo_nostar (hp env)) rfl (evalArgs_any (backTo_nostar (hp env)) ?_)⟩
  refine noE (h1 A env P s1 pos rm ib f1 o1) ?_
  rintro vs s2 ⟨as, H2, ias, f2, o2, h2⟩
  exact ⟨.inl (fun _ e => nomatch e), WO.fr h2 rm ib f2 o2 (.cons ia ias)⟩
theorem WE.append {oe : PySem.Expr} {p pos : Pos} {es : List PySem.Expr} {Φ : V → Hp → Prop}
    (h : WE B k F oe vars H fun a H1 => MTy "list" B a H1 ∧ WEs B k F es vars H1 fun vs H2 => WC B k (.builtin "list.append") (a :: vs) H2 Φ)
    (hb : ∀ env, attributeBase oe "append" env (eval oe env) = eval oe env := by intro; with_unfolding_all rfl) (hline : (p.endLine == pos.line) = true := by with_unfolding_all rfl)
    (hp : ∀ env, (starEach es env).any (·.1) = false := by intro; with_unfolding_all rfl)
    (hfew : ∀ env, ((backTo pos (starEach es env)).all (fun x => !x.1) && (backToKw pos (keywordEach [] env)).all (fun x => x.1.isSome) && decide (es.length + ([] : List Keyword).length + (if ([] : List Keyword).isEmpty then 0 else 1) < 30)) = true := by intro; with_unfolding_all rfl) :
    WE B k F (.Call (.Attribute oe "append" p) es [] pos) vars H Φ := .meth PySem.F.plainAttrs_list PySem.F.slot_list_append PySem.F.type_list_append h hb hline hp hfew
theorem WE.pop {oe : PySem.Expr} {p pos : Pos} {Φ : V → Hp → Prop}
    (h : WE B k F oe vars H fun a H1 => MTy "list" B a H1 ∧ WEs B k F [] vars H1 fun vs H2 => WC B k (.builtin "list.pop") (a :: vs) H2 Φ)
    (hb : ∀ env, attributeBase oe "pop" env (eval oe env) = eval oe env := by intro; with_unfolding_all rfl) (hline : (p.endLine == pos.line) = true := by with_unfolding_all rfl) :
    WE B k F (.Call (.Attribute oe "pop" p) [] [] pos) vars H Φ := .meth PySem.F.plainAttrs_list PySem.F.slot_list_pop PySem.F.type_list_pop h hb hline (by intro; rfl) (by intro; rfl)
theorem WE.join {oe : PySem.Expr} {p pos : Pos} {es : List PySem.Expr} {Φ : V → Hp → Prop}
    (h : WE B k F oe vars H fun a H1 => MTy "str" B a H1 ∧ WEs B k F es vars H1 fun vs H2 => WC B k (.builtin "str.join") (a :: vs) H2 Φ)
    (hb : ∀ env, attributeBase oe "join" env (eval oe env) = eval oe env := by intro; with_unfolding_all rfl) (hline : (p.endLine == pos.line) = true := by with_unfolding_all rfl)
    (hp : ∀ env, (starEach es env).any (·.1) = false := by intro; with_unfolding_all rfl)
    (hfew : ∀ env, ((backTo pos (starEach es env)).all (fun x => !x.1) && (backToKw pos (keywordEach [] env)).all (fun x => x.1.isSome) && decide (es.length + ([] : List Keyword).length + (if ([] : List Keyword).isEmpty then 0 else 1) < 30)) = true := by intro; with_unfolding_all rfl) :
    WE B k F (.Call (.Attribute oe "join" p) es [] pos) vars H Φ := .meth PySem.F.plainAttrs_str PySem.F.slot_str_join PySem.F.type_str_join h hb hline hp hfew
theorem WE.index {oe : PySem.Expr} {p pos : Pos} {es : List PySem.Expr} {Φ : V → Hp → Prop}
    (h : WE B k F oe vars H fun a H1 => MTy "list" B a H1 ∧ WEs B k F es vars H1 fun vs H2 => WC B k (.builtin "list.index") (a :: vs) H2 Φ)
    (hb : ∀ env, attributeBase oe "index" env (eval oe env) = eval oe env := by intro; with_unfolding_all rfl) (hline : (p.endLine == pos.line) = true := by with_unfolding_all rfl)
    (hp : ∀ env, (starEach es env).any (·.1) = false := by intro; with_unfolding_all rfl)
    (hfew : ∀ env, ((backTo pos (starEach es env)).all (fun x => !x.1) && (backToKw pos (keywordEach [] env)).all (fun x => x.1.isSome) && decide (es.length + ([] : List Keyword).length + (if ([] : List Keyword).isEmpty then 0 else 1) < 30)) = true := by intro; with_unfolding_all rfl) :
    WE B k F (.Call (.Attribute oe "index" p) es [] pos) vars H Φ := .meth PySem.F.plainAttrs_list PySem.F.slot_list_index PySem.F.type_list_index h hb hline hp hfew

/-! calls -/
theorem call_range1 {Φ : V → Hp → Prop} (h : ∀ r, H r = none → Φ (.ref r) (put H r (.rng 0 i 1))) : WC B k (.type "range") [.int i] H Φ :=
  WO.one fun A P s _ r ib o hx => by
    cases hx
    exact call_range_1 ⟨_, _, .ref _, o.pushH (.rng _ _ _) _, h _ o.newH⟩
theorem call_range2 {Φ : V → Hp → Prop} (h : ∀ r, H r = none → Φ (.ref r) (put H r (.rng i j 1))) : WC B k (.type "range") [.int i, .int j] H Φ :=
  WO.two fun A P s _ _ r ib o hx hy => by
    cases hx; cases hy
    exact call_range_2 ⟨_, _, .ref _, o.pushH (.rng _ _ _) _, h _ o.newH⟩
theorem call_range3 {l : Int} {Φ : V → Hp → Prop} (hl : l ≠ 0) (hp : Builtin.divisionGoesByPylong (j - i) l = false) (h : ∀ r, H r = none → Φ (.ref r) (put H r (.rng i j l))) : WC B k (.type "range") [.int i, .int j, .int l] H Φ :=
  WO.three fun A P s _ _ _ r ib o hx hy hz => by
    cases hx; cases hy; cases hz
    exact call_range_3 hl ⟨_, _, .ref _, o.pushH (.rng _ _ _) _, h _ o.newH⟩ (.inl hp)
theorem intItems_of (xs : List (Int × Tok)) : (xs.map (fun p => Value.int p.1 p.2)).toArray = intItems xs.toArray := by simp [intItems]
theorem call_sum {a : Addr} {ns : List Int} {Φ : V → Hp → Prop} (hl : Lst H a (vI ns)) (h : Φ (.int ns.sum) H) : WC B k (.builtin "sum") [.ref a] H Φ :=
  WO.one fun A P s _ r ib o hx => by
    cases hx
    obtain ⟨vs, n, ia, e⟩ := hl P s o
    obtain ⟨xs, rfl, rfl⟩ := ia.items
    have e' := e.isList
    rw [intItems_of] at e'
    refine sum_intListG r.1 e' fun h' tk t' hk => ?_
    rw [preSum_eq, List.take_of_length_le (by simp)]
    exact ⟨_, _, .int _ _, o.grow hk _, h⟩
theorem call_max {a : Addr} {ns : List Int} {Φ : V → Hp → Prop} (hl : Lst H a (vI ns)) (hne : ns ≠ []) (h : ∀ m, m ∈ ns → (∀ n ∈ ns, n ≤ m) → Φ (.int m) H) : WC B k (.builtin "max") [.ref a] H Φ :=
  WO.one fun A P s _ r ib o hx => by
    cases hx
    obtain ⟨vs, n, ia, e⟩ := hl P s o
    obtain ⟨xs, rfl, rfl⟩ := ia.items
    have e' := e.isList
    rw [intItems_of] at e'
    have hne' : 0 < xs.length := by cases xs with | nil => exact absurd rfl hne | cons => simp
    refine max_intList r.1 e' (by simpa using hne') fun v h' tk hv hk => ?_
    obtain ⟨h1, h2⟩ := argBest_gt (numAt xs.toArray) (xs.toArray.size - 1)
    generalize argBest (fun i j => decide (numAt xs.toArray i > numAt xs.toArray j)) (xs.toArray.size - 1) = q at h1 h2 hv
    have hq : q < xs.length := by simp at h1; omega
    have hv' : v = .int xs[q].1 xs[q].2 := by
      simp [intItems, hq] at hv
      exact hv.symm
    subst hv'
    have hnum : ∀ i (hi : i < xs.length), numAt xs.toArray i = xs[i].1 := fun i hi => by simp [numAt, hi]
    refine ⟨_, _, .int _ _, o.grow hk _, h _ (List.mem_map.mpr ⟨xs[q], List.getElem_mem _, rfl⟩) fun n hn => ?_⟩
    obtain ⟨p, hp, rfl⟩ := List.mem_map.mp hn
    obtain ⟨i, hi, rfl⟩ := List.mem_iff_getElem.mp hp
    have := h2 i (by simp; omega)
    rw [hnum i hi, hnum q hq] at this
    exact this
theorem call_join {a : Addr} {ns : List Str} {Φ : V → Hp → Prop} (hl : Lst H a (vS ns)) (hz : JoinOk x ns = true) (h : Φ (.str (Txt.join x ns)) H) : WC B k (.builtin "str.join") [.str x, .ref a] H Φ :=
  WO.two fun A P s _ _ r ib o hx hy => by
    cases hx; cases hy
    obtain ⟨vs, n, ia, e⟩ := hl P s o
    obtain ⟨l, rfl, hl'⟩ := ia.strz
    exact SC.join e.isList hl' hz fun t' tk => ⟨_, _, .str _ _, o.toks _, h⟩

/-! list operators -/
theorem list_add {a b : Addr} {xs ys : List V} {Φ : V → Hp → Prop} (ha : Lst H a xs) (hb : Lst H b ys) (hz : xs.length + ys.length ≤ sizeLine) (h : ∀ r, H r = none → Φ (.ref r) (put H r (.list (xs ++ ys)))) : WBin B k .Add (.ref a) (.ref b) H Φ :=
  WO.two fun A P s _ _ r ib o hx hy => by
    cases hx; cases hy
    obtain ⟨vs, n, ia, e⟩ := ha P s o
    obtain ⟨us, m, ib, e'⟩ := hb P s o
    refine PySem.P.add_list e e' ⟨_, _, .ref _, ?_, h _ o.newH⟩ (by simpa [← ia.length, ← ib.length] using hz)
    rw [List.append_toArray]
    exact o.pushH (.list 0 (ia.append ib)) _
theorem list_mul0 {a : Addr} {v : V} {n : Nat} {Φ : V → Hp → Prop} (ha : Lst H a [v]) (hn : n ≤ 1000) (h : ∀ r, H r = none → Φ (.ref r) (put H r (.list (List.replicate n v)))) : WBin B k .Mult (.ref a) (.int n) H Φ :=
  WO.two fun A P s _ _ r ib o hx hy => by
    cases hx; cases hy
    obtain ⟨vs, m, ia, e⟩ := ha P s o
    cases ia with
    | @cons _ val _ us iv it =>
    cases it
    have key : (List.replicate (if (#[val] : Array Value).isEmpty = true then 0 else ((n : Int)).toNat) (#[val] : Array Value)).foldl (fun x1 x2 => x1 ++ x2) #[] = (List.replicate n val).toArray := by
      have : ∀ (m : Nat) (acc : Array Value), (List.replicate m (#[val] : Array Value)).foldl (fun x1 x2 => x1 ++ x2) acc = acc ++ (List.replicate m val).toArray := by
        intro m
        induction m with
        | zero => intro acc; simp
        | succ m ih => intro acc; rw [List.replicate_succ, List.foldl_cons, ih, List.replicate_succ]; apply Array.ext'; simp
      rw [if_neg (by simp), this]; simp
    have ir : ∀ m, Are (List.replicate m v) (List.replicate m val) := fun m => by
      induction m with
      | zero => exact .nil
      | succ m ih => exact .cons iv ih
    refine mul_L e (by omega) (by omega) (by simp; omega) ?_
    rw [key]
    exact ⟨_, _, .ref _, o.pushH (.list 0 (ir n)) _, h _ o.newH⟩
theorem eq_ints {a b : Addr} {ns ms : List Int} {Φ : V → Hp → Prop} (ha : Lst H a (vI ns)) (hb : Lst H b (vI ms)) (h : Φ (.bool (decide (ns = ms))) H) : WCmp B k .Eq (.ref a) (.ref b) H Φ :=
  WO.two fun A P s _ _ r ib o hx hy => by
    cases hx; cases hy
    obtain ⟨vs, n, ia, e⟩ := ha P s o
    obtain ⟨us, m, ib, e'⟩ := hb P s o
    exact eq_intsK e.isList ia.ints e'.isList ib.ints r.units64 ⟨_, _, .bool _, o, h⟩
theorem ne_ints {a b : Addr} {ns ms : List Int} {Φ : V → Hp → Prop} (ha : Lst H a (vI ns)) (hb : Lst H b (vI ms)) (h : Φ (.bool (!decide (ns = ms))) H) : WCmp B k .NotEq (.ref a) (.ref b) H Φ :=
  WO.two fun A P s _ _ r ib o hx hy => by
    cases hx; cases hy
    obtain ⟨vs, n, ia, e⟩ := ha P s o
    obtain ⟨us, m, ib, e'⟩ := hb P s o
    exact ne_intsK e.isList ia.ints e'.isList ib.ints r.units64 ⟨_, _, .bool _, o, h⟩

/-! the table of signs -/
def Tab (B : Base) (d : Addr) (f : Str → Option Value) : Prop := (d == sysModules) = false ∧ ∀ h : Heap, (∀ a o, B.obj a = some o → h.get? a = some o) → h.MapOf (strKind B.prog B.w) d f
theorem Tab.mty {d : Addr} {f : Str → Option Value} (T : Tab B d f) : MTy "dict" B (.val (.ref d)) H := fun P s val ib o i => by
  cases i
  have hm := T.2 _ (ib.heap o)
  exact ⟨hm.typeIs, hm.noDict⟩
theorem WE.get {oe : PySem.Expr} {p pos : Pos} {es : List PySem.Expr} {Φ : V → Hp → Prop}
    (h : WE B k F oe vars H fun a H1 => MTy "dict" B a H1 ∧ WEs B k F es vars H1 fun vs H2 => WC B k (.builtin "dict.get") (a :: vs) H2 Φ)
    (hb : ∀ env, attributeBase oe "get" env (eval oe env) = eval oe env := by intro; with_unfolding_all rfl) (hline : (p.endLine == pos.line) = true := by with_unfolding_all rfl)
    (hp : ∀ env, (starEach es env).any (·.1) = false := by intro; with_unfolding_all rfl)
    (hfew : ∀ env, ((backTo pos (starEach es env)).all (fun x => !x.1) && (backToKw pos (keywordEach [] env)).all (fun x => x.1.isSome) && decide (es.length + ([] : List Keyword).length + (if ([] : List Keyword).isEmpty then 0 else 1) < 30)) = true := by intro; with_unfolding_all rfl) :
    WE B k F (.Call (.Attribute oe "get" p) es [] pos) vars H Φ := .meth PySem.F.plainAttrs_dict PySem.F.slot_dict_get PySem.F.type_dict_get h hb hline hp hfew
theorem call_get {d : Addr} {f : Str → Option Value} {v : V} {Φ : V → Hp → Prop} (T : Tab B d f) (h1 : ∀ z, f x = some z → ∃ u, Is u z ∧ Φ u H) (h2 : f x = none → Φ v H) : WC B k (.builtin "dict.get") [.val (.ref d), .str x, v] H Φ :=
  WO.three fun A P s _ _ z r ib o hx hy hz => by
    cases hx; cases hy
    have hm := T.2 _ (ib.heap o)
    refine call_meetsIn PySem.F.slot_dict_get hm.typeIs PySem.F.entry_dict_get (PySem.F.args_dict_get_3 _ _ _) (meets_dict_get_default (strKind B.prog B.w) d (strKind_is _ _ _ _) T.1 z) ⟨_, hm, ?_⟩
    cases e : f x with
    | none => exact ⟨_, _, hz, o.toks _, h2 e⟩
    | some q => obtain ⟨u, iu, hu⟩ := h1 q e; exact ⟨_, _, iu, o.toks _, hu⟩
end
end Mine
end
noncomputable section
open PySem PySem.W PyProof.Rows
namespace Mine
section
variable {B : Base} {k : Nat} {F : FI} {vars : List (Option V)} {H : Hp} {i j : Int} {x y : Str}
theorem sl_rev {a : Addr} {xs : List V} {Φ : V → Hp → Prop} (hl : Lst H a xs) (hz : xs.length ≤ sizeLine) (h : ∀ b, H b = none → Φ (.ref b) (put H b (.list xs.reverse))) : WSl B k (.ref a) .none .none (.int (-1)) H Φ :=
  sl_list (lo := none) (hi := none) (st := some (-1)) hl hz (by simp) (fun vs ia => ⟨_, krv_pick _, ia.reverse⟩) h
theorem are_pick {ns : List Int} {vs : List Value} (ia : Are (vI ns) vs) (idx : List Nat) : ∃ ms : List Int, Are (vI ms) (idx.filterMap (vs.toArray[·]?)) := by
  induction idx with
  | nil => exact ⟨[], .nil⟩
  | cons a r ih =>
    obtain ⟨ms, hm⟩ := ih
    rw [List.filterMap_cons]
    cases e : vs.toArray[a]? with
    | none => exact ⟨ms, hm⟩
    | some v =>
      have e' : vs[a]? = some v := by simpa using e
      have hlt : a < ns.length := by
        have := (List.getElem?_eq_some_iff.mp e').1
        rw [← ia.length] at this; simpa using this
      obtain ⟨w, hw, iw⟩ := ia.get (i := a) (x := .int ns[a]) (by simp [hlt])
      rw [e'] at hw; cases hw
      exact ⟨ns[a] :: ms, .cons iw hm⟩
/-- every so many-th item of a list of ints -/
theorem sl_step {a : Addr} {ns : List Int} {n : Nat} {st : Int} {Φ : V → Hp → Prop} (hl : Lst H a (vI ns)) (hz : ns.length ≤ sizeLine) (h0 : st ≠ 0) (h : ∀ b ms, H b = none → Φ (.ref b) (put H b (.list (vI ms)))) : WSl B k (.ref a) .none (.int n) (.int st) H Φ := by
  rintro A P s _ vl vu vt sl r ib o ⟨⟩ il iu it hs
  obtain ⟨vs, m, ia, e⟩ := hl P s o
  obtain ⟨ms, hm⟩ := are_pick ia (sliceRange (sliceBounds none (some (n : Int)) (some st) vs.toArray.size).1 (sliceBounds none (some (n : Int)) (some st) vs.toArray.size).2.1 (sliceBounds none (some (n : Int)) (some st) vs.toArray.size).2.2)
  refine ⟨.of e.isList.typeIs slot_list_getitem.lookup, wpAny_getItem_list_slice (lo := none) (hi := some (n : Int)) (st := some st) e.isList ⟨_, hs, rfl, rfl⟩ (part_of il rfl) (part_of iu rfl) (part_of it rfl) (by simpa using h0) ?_ (by simpa [← ia.length] using hz)⟩
  exact ⟨_, _, .ref _, o.pushH (.list 0 hm) _, h _ ms o.newH⟩
/-- a text's part -/
theorem sl_str {lo hi : Option Int} {Φ : V → Hp → Prop} (hz : x.length ≤ sizeLine) (h : Φ (.str (Txt.slice x lo hi)) H) : WSl B k (.str x) (pV lo) (pV hi) .none H Φ := by
  rintro A P s _ vl vu vt sl r ib o hx il iu it hs
  cases hx; cases it
  have hp : ∀ {l : Option Int} {v : Value}, Is (pV l) v → ∃ l' : Option (Int × Tok), v = partValue l' ∧ l'.map (·.1) = l := fun {l v} i => by
    cases l with
    | none => cases i; exact ⟨none, rfl, rfl⟩
    | some z => cases i; exact ⟨some (z, _), rfl, rfl⟩
  obtain ⟨l, rfl, rfl⟩ := hp il
  obtain ⟨u, rfl, rfl⟩ := hp iu
  refine ⟨.of (typeIs_str _ _ _) PySem.F.slot_str_getitem.lookup, wpAny_getItem_str_slice (l := l) (u := u) (st := none) ⟨_, hs, rfl, rfl⟩ rfl (post_val_or_str ⟨Nat.le_trans (Txt.slice_le x _ _) hz, fun t' tk => ⟨_, _, .str _ _, o.toks _, h⟩⟩)⟩
theorem slice_run {a b : Nat} (hab : a ≤ b) (hb : b ≤ x.length) : Txt.slice x (some a) (some b) = ⟨((x.cps.toList.drop a).take (b - a)).toArray⟩ := StrLaws.sliceText_nat x hab hb
theorem slice_from {a : Nat} (ha : a ≤ x.length) : Txt.slice x (some a) none = ⟨(x.cps.toList.drop a).toArray⟩ := by
  have := StrLaws.sliceText_from (x := x) (i := a) ⟨by omega, by simpa [Str.length] using ha⟩
  have e : Txt.slice x (some (a : Int)) none = StrLaws.sliceText x (some (a : Int)) none := rfl
  rw [e, this]
  congr 2
  rw [List.take_of_length_le (by rw [List.length_drop]; omega)]
  simp
/-- where a list lies among lists -/
theorem call_index {a b : Addr} {bs : List Addr} {nss : List (List Int)} {ns : List Int} {m : Nat} {Φ : V → Hp → Prop} (hl : H a = some (.list (bs.map V.ref))) (hb : Lst H b (vI ns)) (hbs : ∀ (i : Nat) c, bs[i]? = some c → ∃ ms, nss[i]? = some ms ∧ Lst H c (vI ms)) (hne : b ∉ bs)
    (hz : bs.length ≤ 1000) (hit : nss[m]? = some ns) (hm : m < bs.length) (hno : ∀ j : Nat, j < m → nss[j]? ≠ some ns) (h : Φ (.int m) H) : WC B k (.builtin "list.index") [.ref a, .ref b] H Φ :=
  WO.two fun A P s _ _ r ib o hx hy => by
    cases hx; cases hy
    obtain ⟨vs, n, ia, e⟩ := o.isL hl
    have hlen : vs.length = bs.length := by rw [← ia.length]; simp
    have hvs : ∀ (i : Nat) c, bs[i]? = some c → vs[i]? = some (.ref c) := fun i c hc => by
      obtain ⟨w, hw, iw⟩ := ia.get (i := i) (x := .ref c) (by simp [hc])
      cases iw; exact hw
    -- the number of a row, by its address
    classical
    let f : Value → Bool := fun v => match v with | .ref c => decide (∃ ms, Lst H c (vI ms) ∧ ms = ns) | _ => false
    have uniq : ∀ c ms ms', Lst H c (vI ms) → Lst H c (vI ms') → ms = ms' := fun c ms ms' h1 h2 => by
      obtain ⟨us, p, i1, e1⟩ := h1 P s o
      obtain ⟨us', p', i2, e2⟩ := h2 P s o
      have := e1.symm.trans e2
      simp only [Option.some.injEq, Obj.mk.injEq, Data.seq.injEq, true_and, and_true] at this
      have hu : us = us' := by simpa using congrArg Array.toList this.1
      subst hu
      have : ∀ {ns ms : List Int} {vs : List Value}, Are (vI ns) vs → Are (vI ms) vs → ns = ms := by
        intro ns
        induction ns with
        | nil => intro ms vs h1 h2; cases h1; cases ms with
          | nil => rfl
          | cons => cases h2
        | cons q ns ih => intro ms vs h1 h2; cases ms with
          | nil => cases h2; cases h1
          | cons q' ms => cases h1 with
            | cons a b => cases h2 with
              | cons c d => cases a; cases c; rw [ih b d]
      exact this i1 i2
    have hf : ∀ (i : Nat) c, bs[i]? = some c → f (.ref c) = decide (nss[i]? = some ns) := fun i c hc => by
      obtain ⟨ms, h1, h2⟩ := hbs i c hc
      show decide _ = _
      rw [decide_eq_decide, h1]
      constructor
      · rintro ⟨ms', h3, rfl⟩; rw [uniq c _ _ h2 h3]
      · intro q; cases q; exact ⟨_, h2, rfl⟩
    have hat : ∀ (i : Nat) (hi : i < vs.toArray.size), ∃ c, bs[i]? = some c ∧ vs.toArray[i] = .ref c := fun i hi => by
      have hi' : i < bs.length := by simpa [hlen] using hi
      refine ⟨bs[i], List.getElem?_eq_getElem hi', ?_⟩
      have := hvs i bs[i] (List.getElem?_eq_getElem hi')
      have h2 := (List.getElem?_eq_some_iff.mp this).2
      simpa using h2
    obtain ⟨us, p, i2, e2⟩ := hb P s o
    refine call_meets PySem.F.slot_list_index ⟨_, e, rfl⟩ PySem.F.entry_list_index (PySem.F.args_list_index_2 _ _) (PySem.SeqAt.list_indexAt a vs.toArray n none #[] (.ref b) f m (by simpa [hlen] using hm) (by omega) ?_ ?_) ⟨e, ?_, _, _, .int _ _, o.toks _, h⟩
    · obtain ⟨c, hc, hv⟩ := hat m (by simpa [hlen] using hm)
      rw [hv, hf m c hc, hit]; simp
    · intro q hq hqm
      obtain ⟨c, hc, hv⟩ := hat q hq
      rw [hv, hf q c hc]
      simpa using hno q hqm
    · intro y hy
      obtain ⟨q, hq, rfl⟩ := Array.mem_iff_getElem.mp hy
      obtain ⟨c, hc, hv⟩ := hat q hq
      rw [hv, hf q c hc]
      obtain ⟨ms, h1, h2⟩ := hbs q c hc
      obtain ⟨us', p', i3, e3⟩ := h2 P s o
      refine PySem.SeqAt.EqAt.of_refs (fun e => hne (e ▸ List.mem_of_getElem? hc)) fun prog w E Q hQ => ?_
      have hdec : decide (nss[q]? = some ns) = decide (ms = ns) := by rw [h1]; simp
      rw [hdec] at hQ
      have hu : A.in1.units + 64 < cLine := by have := r.2.2.2; show A.units + 1 + 64 < cLine; omega
      exact eq_intsK e3.isList i3.ints e2.isList i2.ints hu hQ
end
end Mine
end
noncomputable section
open PySem PySem.W PyProof.Rows
namespace Mine
def sBody : Stmt → List Stmt | .FunctionDef _ _ b .. => b | _ => []
def sArgs : Stmt → Arguments | .FunctionDef _ a .. => a | _ => { posonlyargs := [], args := [], vararg := none, kwonlyargs := [], kw_defaults := [], kwarg := none, defaults := [] }
def sScope : Stmt → Scope | .FunctionDef (scope := s) .. => s | _ => { kind := .function, names := [], isGenerator := false, isCoroutine := false, more := [] }
section
variable {B : Base} {k : Nat} {F : FI} {vars : List (Option V)} {H : Hp}
theorem thenDo_next {rest : List Stmt} {Φ : Fl → List (Option V) → Hp → Prop} (h : WSs B k F rest vars H Φ) : thenDo B k F rest Φ .next vars H := h
theorem thenDo_ret {v : V} {rest : List Stmt} {Φ : Fl → List (Option V) → Hp → Prop} (h : Φ (.ret v) vars H) : thenDo B k F rest Φ (.ret v) vars H := h
theorem turn_next {Inv : List (Option V) → Hp → Prop} {Ψ : Fl → List (Option V) → Hp → Prop} (h : Inv vars H) : turnEnd Inv Ψ .next vars H := h
theorem turn_ret {v : V} {Inv : List (Option V) → Hp → Prop} {Ψ : Fl → List (Option V) → Hp → Prop} (h : Ψ (.ret v) vars H) : turnEnd Inv Ψ (.ret v) vars H := h
/-- what a def hands back -/
def retV (Φ : V → Hp → Prop) (f : Fl) (_ : List (Option V)) (H : Hp) : Prop := match f with | .ret v => Φ v H | _ => Φ .none H
theorem retV_ret {v : V} {Φ : V → Hp → Prop} (h : Φ v H) : retV Φ (.ret v) vars H := h
theorem retV_next {Φ : V → Hp → Prop} (h : Φ .none H) : retV Φ .next vars H := h
theorem WBs.cons {x : Str} {v : V} {r : List (Str × V)} {Φ : List (Option V) → Hp → Prop} (h : WSt B k F x v vars H fun vars1 H1 => WBs B k F r vars1 H1 Φ) : WBs B k F ((x, v) :: r) vars H Φ := h
theorem WBs.nil {Φ : List (Option V) → Hp → Prop} (h : Φ vars H) : WBs B k F [] vars H Φ := h
theorem WPt.none {Φ : V → Hp → Prop} (h : Φ .none H) : WPt B k F Option.none vars H Φ := h
theorem WPt.some {e : PySem.Expr} {Φ : V → Hp → Prop} (h : WE B k F e vars H Φ) : WPt B k F (Option.some e) vars H Φ := h
theorem WIf.nil {Φ : Bool → Hp → Prop} (h : Φ true H) : WIf B k F [] vars H Φ := h
theorem WIf.one {c : PySem.Expr} {Φ : Bool → Hp → Prop} (h : WT B k F c vars H Φ) : WIf B k F [c] vars H Φ := h
end
theorem cs_nil {sc : Scope} (h : celNames sc.names = []) {cs : List Addr} (hl : cs.length = (celNames sc.names).length) : cs = [] := by rw [h] at hl; exact List.eq_nil_of_length_eq_zero hl
/-- a call of a def without cells of its own -/
theorem WC.def0 {B : Base} {k : Nat} {H : Hp} {a : Addr} {st : Stmt} {dv kdv : Value} {names : List Str} {vs0 : List (Option V)} {args : List V} {bs : List (Str × V)} {Φ : V → Hp → Prop} {s1 : Stmt} {body : List Stmt}
    (D : DefAt B a (sArgs st) (sBody st) (sScope st) dv kdv) (L : Looks (sScope st) names vs0) (hb : Binding B (sArgs st) dv kdv [] args bs) (hc : celNames (sScope st).names = []) (hbd : sBody st = s1 :: body)
    (h : WBs B k ⟨sScope st, names, []⟩ bs vs0 H fun vars H1 => WSs B k ⟨sScope st, names, []⟩ (s1 :: body) vars H1 (retV Φ)) : WC B (k + 1) (.ref a) args H Φ := by
  refine WC.def D L hb fun cs h1 h2 h3 h6 => ?_
  obtain rfl := cs_nil hc h1
  rw [hc, ← hbd] at *
  exact h
/-- how plain arguments go to the names -/
theorem binding_plain {B : Base} {ps : Arguments} {names : List Str} {args : List V} (hl : names.length = args.length)
    (hn : ∀ vals : List Value, vals.length = names.length → ∀ fd : FuncData, fd.params = ps → fd.defaults = .none → fd.kwdefaults = .none → bindArgs fd ⟨vals, []⟩ = pure (names.zip vals)) : Binding B ps .none .none [] args (names.zip args) := by
  intro fd P H s kvals vals hp hd hk ib o ar hkl
  have : kvals = [] := List.eq_nil_of_length_eq_zero hkl
  subst this
  have hlv : vals.length = names.length := by rw [hl, ar.length]; rfl
  refine ⟨names.zip vals, BindsTo.of_eq (hn vals hlv fd hp hd hk), ?_⟩
  clear hn hl hlv
  have ar' : Are args vals := ar
  clear ar
  induction ar' generalizing names with
  | nil => rw [List.zip_nil_right, List.zip_nil_right]; exact .nil
  | cons a b ih => cases names with
    | nil => exact .nil
    | cons n ns => exact .cons a (ih (names := ns))
abbrev vN (ns : List Nat) : List V := ns.map fun n : Nat => V.int n
theorem vN_vI (ns : List Nat) : vN ns = vI (ns.map Int.ofNat) := by simp [vN, vI]
theorem bin_divn {B : Base} {k i j : Nat} {H : Hp} {Φ : V → Hp → Prop} (hj : 0 < j) (hi : j < 2 ^ 30) (h : Φ (.int ((i / j : Nat) : Int)) H) : WBin B k .FloorDiv (.int i) (.int j) H Φ := by
  refine bin_div (by omega) (PyProof.noPylong_small (by rw [Int.natAbs_natCast]; omega)) ?_
  rw [Int.fdiv_eq_ediv_of_nonneg _ (by omega)]
  exact h
theorem bin_modn {B : Base} {k i j : Nat} {H : Hp} {Φ : V → Hp → Prop} (hj : 0 < j) (h : Φ (.int ((i % j : Nat) : Int)) H) : WBin B k .Mod (.int i) (.int j) H Φ := by
  refine bin_mod (by omega) ?_
  rw [Int.fmod_eq_emod_of_nonneg _ (by omega)]
  exact h
end Mine
end
noncomputable section
open PySem PySem.W PyProof.Rows
namespace Mine
/-! the drawing, without the program -/
def base (κ : Nat) : Nat := if κ = 0 then 7 else if κ = 1 then 9 else if κ = 2 then 25 else 20
def wt (κ n : Nat) : Int := if n = base κ then 1 else if n = base κ + 1 then -1 else 0
def Wt (κ : Nat) (ns : List Nat) (j : Nat) : Int := ((ns.take j).map (wt κ)).sum
def Mate (κ : Nat) (ns : List Nat) (p e : Nat) : Prop := Wt κ ns (e + 1) = Wt κ ns p ∧ ∀ j, p < j → j ≤ e → Wt κ ns p < Wt κ ns j
theorem Wt_app {κ : Nat} {ns ms : List Nat} {j : Nat} (h : j ≤ ns.length) : Wt κ (ns ++ ms) j = Wt κ ns j := by
  unfold Wt; rw [List.take_append_of_le_length h]
theorem Wt_end {κ n : Nat} {ns : List Nat} : Wt κ (ns ++ [n]) (ns.length + 1) = Wt κ ns ns.length + wt κ n := by
  unfold Wt
  rw [show ns.length + 1 = (ns ++ [n]).length by simp, List.take_length, List.take_length]
  simp
theorem Mate.app {κ p e : Nat} {ns ms : List Nat} (h : Mate κ ns p e) (hp : p < e) (he : e < ns.length) : Mate κ (ns ++ ms) p e := by
  obtain ⟨a, b⟩ := h
  refine ⟨?_, fun j h1 h2 => ?_⟩
  · rw [Wt_app (by omega), Wt_app (by omega)]; exact a
  · rw [Wt_app (by omega), Wt_app (by omega)]; exact b j h1 h2
theorem base_ne {κ l : Nat} (h : κ < 4) (g : l < 4) (hn : κ ≠ l) : base κ ≠ base l := by
  have : ∀ κ < 4, ∀ l < 4, κ ≠ l → base κ ≠ base l := by decide
  exact this κ h l g hn
theorem base_odd {κ l : Nat} (h : κ < 4) (g : l < 4) : base κ ≠ base l + 1 := by
  have : ∀ κ < 4, ∀ l < 4, base κ ≠ base l + 1 := by decide
  exact this κ h l g
theorem wt_open (κ : Nat) : wt κ (base κ) = 1 := by unfold wt; rw [if_pos rfl]
theorem wt_close (κ : Nat) : wt κ (base κ + 1) = -1 := by unfold wt; rw [if_neg (by omega), if_pos rfl]
theorem wt_other {κ l : Nat} (h : κ < 4) (g : l < 4) (hn : κ ≠ l) : wt κ (base l) = 0 ∧ wt κ (base l + 1) = 0 := by
  unfold wt
  rw [if_neg (base_ne g h (Ne.symm hn)), if_neg (base_odd g h), if_neg (Ne.symm (base_odd h g)), if_neg (by have := base_ne g h (Ne.symm hn); omega)]
  exact ⟨rfl, rfl⟩
/-- all that may come of it -/
def allOut (fin : List Nat → Bool) : Nat → Nat → List Nat → List Nat → Bool
  | 0, _, _, other => fin other
  | f + 1, place, opens, other => (if opens.length < 10 - place then allOut fin f (place + 1) (opens ++ [place]) other else true) && opens.all fun q => allOut fin f (place + 1) (opens.erase q) ((other.set place q).set q place)
abbrev pile (piles : List (List Nat)) (κ : Nat) : List Nat := piles.getD κ []
structure DInv (fin : List Nat → Bool) (ns other : List Nat) (piles : List (List Nat)) (opens : List Nat) : Prop where
  ol : other.length = 10
  pl : piles.length = 4
  W : ∀ κ, κ < 4 → Wt κ ns ns.length = ((pile piles κ).length : Nat)
  pi : ∀ κ, κ < 4 → ∀ (t q : Nat), (pile piles κ)[t]? = some q → Wt κ ns q = t ∧ ns[q]? = some (base κ) ∧ ∀ j, q < j → j ≤ ns.length → (t : Int) < Wt κ ns j
  num : ∀ (p n : Nat), ns[p]? = some n → ∃ κ, κ < 4 ∧ ((n = base κ ∧ (p ∈ pile piles κ ∨ (p ∉ pile piles κ ∧ ∃ e, e < ns.length ∧ p < e ∧ other[p]? = some e ∧ other[e]? = some p ∧ ns[e]? = some (base κ + 1) ∧ Mate κ ns p e))) ∨
    (n = base κ + 1 ∧ ∃ q, q < p ∧ ns[q]? = some (base κ) ∧ q ∉ pile piles κ ∧ other[p]? = some q ∧ other[q]? = some p))
  par : opens.length % 2 = ns.length % 2 ∧ opens.length + ns.length ≤ 10
  perm : opens.Perm piles.flatten
  out : allOut fin (10 - ns.length) ns.length opens other = true
theorem flat_push (x : Nat) : ∀ (ps : List (List Nat)) (κ : Nat), κ < ps.length → (ps.set κ (pile ps κ ++ [x])).flatten.Perm (x :: ps.flatten)
  | p :: ps, 0, _ => by
    show ((p ++ [x]) ++ ps.flatten).Perm (x :: (p ++ ps.flatten))
    rw [List.append_assoc]
    exact List.perm_middle
  | p :: ps, κ + 1, h => by
    show (p ++ (ps.set κ (pile ps κ ++ [x])).flatten).Perm (x :: (p ++ ps.flatten))
    exact ((flat_push x ps κ (by simpa using h)).append_left p).trans List.perm_middle
theorem flat_pop (x : Nat) (init : List Nat) : ∀ (ps : List (List Nat)) (κ : Nat), κ < ps.length → pile ps κ = init ++ [x] → ps.flatten.Perm (x :: (ps.set κ init).flatten)
  | p :: ps, 0, _, e => by
    have e : p = init ++ [x] := e
    subst e
    show ((init ++ [x]) ++ ps.flatten).Perm (x :: (init ++ ps.flatten))
    rw [List.append_assoc]
    exact List.perm_middle
  | p :: ps, κ + 1, h, e => by
    show (p ++ ps.flatten).Perm (x :: (p ++ (ps.set κ init).flatten))
    exact ((flat_pop x init ps κ (by simpa using h) e).append_left p).trans List.perm_middle
theorem pile_set {ps : List (List Nat)} {κ l : Nat} {r : List Nat} (h : κ < ps.length) : pile (ps.set κ r) l = if l = κ then r else pile ps l := by
  unfold pile
  rw [List.getD_eq_getElem?_getD, List.getD_eq_getElem?_getD, List.getElem?_set]
  by_cases e : κ = l
  · subst e; simp [h]
  · rw [if_neg e, if_neg (Ne.symm e)]
theorem DInv.opened {fin : List Nat → Bool} {ns other : List Nat} {piles : List (List Nat)} {opens : List Nat} (I : DInv fin ns other piles opens) : (piles.map List.length).sum = opens.length := by
  rw [← List.length_flatten]; exact I.perm.length_eq.symm
theorem DInv.push {fin : List Nat → Bool} {ns other : List Nat} {piles : List (List Nat)} {opens : List Nat} (I : DInv fin ns other piles opens) {κ : Nat} (hκ : κ < 4) (hr : opens.length < 10 - ns.length) :
    DInv fin (ns ++ [base κ]) other (piles.set κ (pile piles κ ++ [ns.length])) (opens ++ [ns.length]) := by
  have hκ' : κ < piles.length := by rw [I.pl]; exact hκ
  have ln : (ns ++ [base κ]).length = ns.length + 1 := by simp
  refine ⟨I.ol, by rw [List.length_set]; exact I.pl, fun l hl => ?_, fun l hl t q hq => ?_, fun p n hn => ?_, ?_, ?_, ?_⟩
  · rw [ln, Wt_end, I.W l hl, pile_set hκ']
    by_cases e : l = κ
    · subst e; rw [if_pos rfl, wt_open]; simp
    · rw [if_neg e, (wt_other hl hκ e).1]; simp
  · have hend : Wt l (ns ++ [base κ]) (ns.length + 1) = ((pile piles l).length : Nat) + wt l (base κ) := by rw [Wt_end, I.W l hl]
    rw [pile_set hκ'] at hq
    have old : (pile piles l)[t]? = some q → Wt l (ns ++ [base κ]) q = t ∧ (ns ++ [base κ])[q]? = some (base l) ∧ ∀ j, q < j → j ≤ (ns ++ [base κ]).length → (t : Int) < Wt l (ns ++ [base κ]) j := fun hq => by
      obtain ⟨a, b, c⟩ := I.pi l hl t q hq
      have hlt : q < ns.length := (List.getElem?_eq_some_iff.mp b).1
      have htl : t < (pile piles l).length := (List.getElem?_eq_some_iff.mp hq).1
      refine ⟨by rw [Wt_app (by omega)]; exact a, by rw [List.getElem?_append_left hlt]; exact b, fun j h1 h2 => ?_⟩
      rw [ln] at h2
      by_cases e : j = ns.length + 1
      · subst e
        rw [hend]
        by_cases e : l = κ
        · subst e; rw [wt_open]; omega
        · rw [(wt_other hl hκ e).1]; omega
      · rw [Wt_app (by omega)]; exact c j h1 (by omega)
    by_cases e : l = κ
    · subst e
      rw [if_pos rfl, List.getElem?_append] at hq
      split at hq
      · exact old hq
      · rename_i hge
        have ht : t = (pile piles l).length := by
          have := (List.getElem?_eq_some_iff.mp hq).1
          rw [List.length_singleton] at this; omega
        subst ht
        simp at hq
        subst hq
        refine ⟨by rw [Wt_app (Nat.le_refl _)]; exact I.W l hl, by simp, fun j h1 h2 => ?_⟩
        rw [ln] at h2
        have : j = ns.length + 1 := by omega
        subst this
        rw [hend, wt_open]; omega
    · rw [if_neg e] at hq
      exact old hq
  · rw [List.getElem?_append] at hn
    split at hn
    · rename_i hp
      obtain ⟨l, hl, h⟩ := I.num p n hn
      refine ⟨l, hl, ?_⟩
      have hmem : ∀ z : Nat, z ≠ ns.length → (z ∈ pile (piles.set κ (pile piles κ ++ [ns.length])) l ↔ z ∈ pile piles l) := fun z hz => by
        rw [pile_set hκ']
        by_cases e : l = κ
        · subst e; rw [if_pos rfl]; simp [hz]
        · rw [if_neg e]
      rcases h with ⟨rfl, h | ⟨h1, e, he, hpe, h2, h3, h4, h5⟩⟩ | ⟨rfl, q, hq, h1, h2, h3, h4⟩
      · exact .inl ⟨rfl, .inl ((hmem p (by omega)).mpr h)⟩
      · exact .inl ⟨rfl, .inr ⟨fun h => h1 ((hmem p (by omega)).mp h), e, by rw [ln]; omega, hpe, h2, h3, by rw [List.getElem?_append_left he]; exact h4, h5.app hpe he⟩⟩
      · exact .inr ⟨rfl, q, hq, by rw [List.getElem?_append_left (by omega)]; exact h1, fun h => h2 ((hmem q (by omega)).mp h), h3, h4⟩
    · rename_i hp
      have hpe : p = ns.length := by
        have := (List.getElem?_eq_some_iff.mp hn).1
        simp at this; omega
      subst hpe
      simp at hn
      subst hn
      refine ⟨κ, hκ, .inl ⟨rfl, .inl ?_⟩⟩
      rw [pile_set hκ', if_pos rfl]; simp
  · obtain ⟨a, b⟩ := I.par
    simp only [List.length_append, List.length_cons, List.length_nil]
    omega
  · refine List.Perm.trans ?_ (flat_push ns.length piles κ hκ').symm
    exact (List.perm_append_comm (l₁ := opens) (l₂ := [ns.length])).trans (I.perm.cons _)
  · have h := I.out
    have e : 10 - ns.length = (10 - (ns.length + 1)) + 1 := by omega
    rw [e, allOut, Bool.and_eq_true, if_pos hr] at h
    rw [ln]; exact h.1
theorem DInv.pop {fin : List Nat → Bool} {ns other : List Nat} {piles : List (List Nat)} {opens : List Nat} (I : DInv fin ns other piles opens) {κ q : Nat} {init : List Nat} (hκ : κ < 4) (hp : pile piles κ = init ++ [q]) :
    DInv fin (ns ++ [base κ + 1]) ((other.set ns.length q).set q ns.length) (piles.set κ init) (opens.erase q) := by
  have hκ' : κ < piles.length := by rw [I.pl]; exact hκ
  have ln : (ns ++ [base κ + 1]).length = ns.length + 1 := by simp
  have hfl := flat_pop q init piles κ hκ' hp
  have hqo : q ∈ opens := I.perm.mem_iff.mpr (hfl.mem_iff.mpr List.mem_cons_self)
  have hlen : ns.length < 10 := by
    have h1 := I.par.2
    have h2 := List.length_pos_of_mem hqo
    omega
  have hlo : 0 < opens.length := List.length_pos_of_mem hqo
  have hpl : (pile piles κ).length = init.length + 1 := by rw [hp]; simp
  obtain ⟨q1, q2, q3⟩ := I.pi κ hκ init.length q (by rw [hp]; simp)
  have hqlt : q < ns.length := (List.getElem?_eq_some_iff.mp q2).1
  have hinit : q ∉ init := fun hm => by
    obtain ⟨t, ht⟩ := List.mem_iff_getElem?.mp hm
    have htl : t < init.length := (List.getElem?_eq_some_iff.mp ht).1
    have := (I.pi κ hκ t q (by rw [hp, List.getElem?_append_left htl]; exact ht)).1
    omega
  have hend : ∀ l, l < 4 → Wt l (ns ++ [base κ + 1]) (ns.length + 1) = ((pile piles l).length : Nat) + wt l (base κ + 1) := fun l hl => by rw [Wt_end, I.W l hl]
  have hWend : Wt κ (ns ++ [base κ + 1]) (ns.length + 1) = (init.length : Nat) := by rw [hend κ hκ, wt_close, hpl]; omega
  have hset : ∀ z : Nat, z ≠ ns.length → z ≠ q → ((other.set ns.length q).set q ns.length)[z]? = other[z]? := fun z h1 h2 => by
    rw [List.getElem?_set_ne (Ne.symm h2), List.getElem?_set_ne (Ne.symm h1)]
  have hsq : ((other.set ns.length q).set q ns.length)[q]? = some ns.length := by
    rw [List.getElem?_set_self (by rw [List.length_set, I.ol]; omega)]
  have hsn : ((other.set ns.length q).set q ns.length)[ns.length]? = some q := by
    rw [List.getElem?_set_ne (by omega), List.getElem?_set_self (by rw [I.ol]; omega)]
  have hmem : ∀ l z : Nat, z ∈ pile (piles.set κ init) l → z ∈ pile piles l := fun l z hz => by
    rw [pile_set hκ'] at hz
    by_cases e : l = κ
    · subst e; rw [if_pos rfl] at hz; rw [hp]; exact List.mem_append_left _ hz
    · rw [if_neg e] at hz; exact hz
  have hmate : Mate κ (ns ++ [base κ + 1]) q ns.length := by
    refine ⟨?_, fun j h1 h2 => ?_⟩
    · rw [hWend, Wt_app (by omega), q1]
    · rw [Wt_app (by omega), Wt_app (by omega), q1]; exact q3 j h1 h2
  refine ⟨by simp [I.ol], by rw [List.length_set]; exact I.pl, fun l hl => ?_, fun l hl t z hz => ?_, fun p n hn => ?_, ?_, ?_, ?_⟩
  · rw [ln, pile_set hκ']
    by_cases e : l = κ
    · subst e; rw [if_pos rfl, hWend]
    · rw [if_neg e, hend l hl, (wt_other hl hκ e).2]; simp
  · have hz' : (pile piles l)[t]? = some z ∧ (t : Int) < Wt l (ns ++ [base κ + 1]) (ns.length + 1) := by
      rw [pile_set hκ'] at hz
      by_cases e : l = κ
      · subst e
        rw [if_pos rfl] at hz
        have htl : t < init.length := (List.getElem?_eq_some_iff.mp hz).1
        exact ⟨by rw [hp, List.getElem?_append_left htl]; exact hz, by rw [hWend]; omega⟩
      · rw [if_neg e] at hz
        have htl : t < (pile piles l).length := (List.getElem?_eq_some_iff.mp hz).1
        exact ⟨hz, by rw [hend l hl, (wt_other hl hκ e).2]; omega⟩
    obtain ⟨hz', hz2⟩ := hz'
    obtain ⟨a, b, c⟩ := I.pi l hl t z hz'
    have hlt : z < ns.length := (List.getElem?_eq_some_iff.mp b).1
    refine ⟨by rw [Wt_app (by omega)]; exact a, by rw [List.getElem?_append_left hlt]; exact b, fun j h1 h2 => ?_⟩
    rw [ln] at h2
    by_cases e : j = ns.length + 1
    · subst e; exact hz2
    · rw [Wt_app (by omega)]; exact c j h1 (by omega)
  · rw [List.getElem?_append] at hn
    split at hn
    · rename_i hpn
      obtain ⟨l, hl, h⟩ := I.num p n hn
      refine ⟨l, hl, ?_⟩
      rcases h with ⟨rfl, h | ⟨h1, e, he, hpe, h2, h3, h4, h5⟩⟩ | ⟨rfl, z, hz, h1, h2, h3, h4⟩
      · by_cases e : p = q
        · subst e
          have : l = κ := by
            by_cases e : l = κ
            · exact e
            · rw [q2] at hn; exact absurd (Option.some.inj hn) (base_ne hκ hl (Ne.symm e))
          subst this
          refine .inl ⟨rfl, .inr ⟨?_, ns.length, by omega, hqlt, hsq, hsn, by simp, hmate⟩⟩
          rw [pile_set hκ', if_pos rfl]; exact hinit
        · refine .inl ⟨rfl, .inl ?_⟩
          rw [pile_set hκ']
          by_cases e' : l = κ
          · subst e'
            rw [if_pos rfl]
            rw [hp] at h
            rcases List.mem_append.mp h with h | h
            · exact h
            · exact absurd (List.mem_singleton.mp h) e
          · rw [if_neg e']; exact h
      · have hpq : p ≠ q := by
          rintro rfl
          have : l = κ := by
            by_cases e : l = κ
            · exact e
            · rw [q2] at hn; exact absurd (Option.some.inj hn) (base_ne hκ hl (Ne.symm e))
          subst this
          rw [hp] at h1
          exact h1 (by simp)
        have heq : e ≠ q := by
          rintro rfl
          rw [q2] at h4
          exact absurd (Option.some.inj h4) (base_odd hκ hl)
        exact .inl ⟨rfl, .inr ⟨fun h => h1 (hmem l p h), e, by rw [ln]; omega, hpe, by rw [hset p (by omega) hpq]; exact h2, by rw [hset e (by omega) heq]; exact h3, by rw [List.getElem?_append_left he]; exact h4, h5.app hpe he⟩⟩
      · have hpq : p ≠ q := by
          rintro rfl
          rw [q2] at hn
          exact absurd (Option.some.inj hn) (base_odd hκ hl)
        have hzq : z ≠ q := by
          rintro rfl
          have : l = κ := by
            by_cases e : l = κ
            · exact e
            · rw [q2] at h1; exact absurd (Option.some.inj h1) (base_ne hκ hl (Ne.symm e))
          subst this
          rw [hp] at h2
          exact h2 (by simp)
        exact .inr ⟨rfl, z, hz, by rw [List.getElem?_append_left (by omega)]; exact h1, fun h => h2 (hmem l z h), by rw [hset p (by omega) hpq]; exact h3, by rw [hset z (by omega) hzq]; exact h4⟩
    · rename_i hpn
      have hpe : p = ns.length := by
        have := (List.getElem?_eq_some_iff.mp hn).1
        simp at this; omega
      subst hpe
      simp at hn
      subst hn
      refine ⟨κ, hκ, .inr ⟨rfl, q, hqlt, by rw [List.getElem?_append_left hqlt]; exact q2, ?_, hsn, hsq⟩⟩
      rw [pile_set hκ', if_pos rfl]; exact hinit
  · obtain ⟨a, b⟩ := I.par
    rw [List.length_erase_of_mem hqo, ln]
    omega
  · have := (I.perm.trans hfl).erase q
    rw [List.erase_cons_head] at this
    exact this
  · have h := I.out
    have e : 10 - ns.length = (10 - (ns.length + 1)) + 1 := by omega
    rw [e, allOut, Bool.and_eq_true] at h
    rw [ln]
    exact List.all_eq_true.mp h.2 q hqo
/-- what is drawn: each bracket's mate -/
structure Tied (ns other : List Nat) : Prop where
  nl : ns.length = 10
  ol : other.length = 10
  num : ∀ (p n : Nat), ns[p]? = some n → ∃ κ, κ < 4 ∧ ((n = base κ ∧ ∃ e, e < 10 ∧ p < e ∧ other[p]? = some e ∧ other[e]? = some p ∧ ns[e]? = some (base κ + 1) ∧ Mate κ ns p e) ∨
    (n = base κ + 1 ∧ ∃ q, q < p ∧ ns[q]? = some (base κ) ∧ other[p]? = some q ∧ other[q]? = some p))
theorem DInv.end {fin : List Nat → Bool} {ns other : List Nat} {piles : List (List Nat)} {opens : List Nat} (I : DInv fin ns other piles opens) (h : ns.length = 10) : Tied ns other ∧ fin other = true := by
  have ho : opens = [] := List.eq_nil_of_length_eq_zero (by have := I.par.2; omega)
  have hf : piles.flatten = [] := by have := I.perm; rw [ho] at this; exact (List.nil_perm.mp this)
  refine ⟨⟨h, I.ol, fun p n hn => ?_⟩, ?_⟩
  · obtain ⟨κ, hκ, g⟩ := I.num p n hn
    refine ⟨κ, hκ, ?_⟩
    rcases g with ⟨rfl, g | ⟨h1, e, he, hpe, h2, h3, h4, h5⟩⟩ | ⟨rfl, z, hz, h1, h2, h3, h4⟩
    · exfalso
      have : p ∈ piles.flatten := by
        refine List.mem_flatten.mpr ⟨pile piles κ, ?_, g⟩
        unfold pile
        rw [List.getD_eq_getElem?_getD, List.getElem?_eq_getElem (by rw [I.pl]; exact hκ)]
        exact List.getElem_mem _
      rw [hf] at this; cases this
    · exact .inl ⟨rfl, e, by omega, hpe, h2, h3, h4, h5⟩
    · exact .inr ⟨rfl, z, hz, h1, h3, h4⟩
  · have := I.out
    rw [h] at this
    exact this
end Mine
end
noncomputable section
open PySem PySem.W PyProof.Rows
namespace Mine
theorem Ext.self {H : Hp} {t : Addr} (n : H t = none) (o : O) : Ext H (Mine.put H t o) := (Ext.refl H).put o n
/-! what is made new -/
section
variable {B : Base} {k : Nat} {F : FI} {vars : List (Option V)} {H : Hp} {i j : Int}
abbrev Nu (H : Hp) (o : O) (Φ : V → Hp → Prop) : Prop := ∀ a H', H a = none → Ext H H' → H' a = some o → Φ (.ref a) H'
theorem Nu.out {o : O} {Φ : V → Hp → Prop} (h : Nu H o Φ) (a : Addr) (ha : H a = none) : Φ (.ref a) (put H a o) := h a _ ha (Ext.self ha _) (put_self _ _ _)
theorem WEs.mono {es : List PySem.Expr} {Φ Ψ : List V → Hp → Prop} (h : WEs B k F es vars H Φ) (g : ∀ v H', Φ v H' → Ψ v H') : WEs B k F es vars H Ψ :=
  fun A env P s pos r i f o => noE (h A env P s pos r i f o) fun _ _ ⟨v, H', a, b, c, d⟩ => ⟨v, H', a, b, c, g _ _ d⟩
theorem WE.listN {es : List PySem.Expr} {pos : Pos} {Φ : V → Hp → Prop} (h : WEs B k F es vars H fun vs H1 => vs.length ≤ sizeLine ∧ Nu H1 (.list vs) Φ) : WE B k F (.List es pos) vars H Φ :=
  .list (h.mono fun _ _ q => ⟨q.1, q.2.out⟩)
theorem WE.tupN {es : List PySem.Expr} {n : Nat} {pos : Pos} {Φ : V → Hp → Prop} (h : WEs B k F es vars H fun vs H1 => vs.length ≤ sizeLine ∧ Nu H1 (.tup vs) Φ) : WE B k F (.Tuple es n pos) vars H Φ :=
  .tup (h.mono fun _ _ q => ⟨q.1, q.2.out⟩)
theorem call_range1N {Φ : V → Hp → Prop} (h : Nu H (.rng 0 i 1) Φ) : WC B k (.type "range") [.int i] H Φ := call_range1 h.out
theorem call_range2N {Φ : V → Hp → Prop} (h : Nu H (.rng i j 1) Φ) : WC B k (.type "range") [.int i, .int j] H Φ := call_range2 h.out
theorem call_range3N {l : Int} {Φ : V → Hp → Prop} (hl : l ≠ 0) (hp : Builtin.divisionGoesByPylong (j - i) l = false) (h : Nu H (.rng i j l) Φ) : WC B k (.type "range") [.int i, .int j, .int l] H Φ := call_range3 hl hp h.out
theorem list_addN {a b : Addr} {xs ys : List V} {Φ : V → Hp → Prop} (ha : Lst H a xs) (hb : Lst H b ys) (hz : xs.length + ys.length ≤ sizeLine) (h : Nu H (.list (xs ++ ys)) Φ) : WBin B k .Add (.ref a) (.ref b) H Φ := list_add ha hb hz h.out
theorem list_mulN {a : Addr} {v : V} {n : Nat} {Φ : V → Hp → Prop} (ha : Lst H a [v]) (hn : n ≤ 1000) (h : Nu H (.list (List.replicate n v)) Φ) : WBin B k .Mult (.ref a) (.int n) H Φ := list_mul0 ha hn h.out
theorem sl_uptoN {a : Addr} {xs : List V} {n : Nat} {Φ : V → Hp → Prop} (hl : Lst H a xs) (hz : xs.length ≤ sizeLine) (h : Nu H (.list (xs.take n)) Φ) : WSl B k (.ref a) .none (.int n) .none H Φ := sl_upto hl hz h.out
theorem sl_runN {a : Addr} {xs : List V} {m n : Nat} {Φ : V → Hp → Prop} (hl : Lst H a xs) (hz : xs.length ≤ sizeLine) (hm : m ≤ n) (hn : n ≤ xs.length) (h : Nu H (.list ((xs.drop m).take (n - m))) Φ) : WSl B k (.ref a) (.int m) (.int n) .none H Φ := sl_run hl hz hm hn h.out
theorem sl_allN {a : Addr} {xs : List V} {Φ : V → Hp → Prop} (hl : Lst H a xs) (hz : xs.length ≤ sizeLine) (h : Nu H (.list xs) Φ) : WSl B k (.ref a) .none .none .none H Φ := sl_all hl hz h.out
theorem sl_lastN {a : Addr} {xs : List V} {Φ : V → Hp → Prop} (hl : Lst H a xs) (hz : xs.length ≤ sizeLine) (h : Nu H (.list (xs.drop (xs.length - 1))) Φ) : WSl B k (.ref a) (.int (-1)) .none .none H Φ := sl_last hl hz h.out
theorem sl_revN {a : Addr} {xs : List V} {Φ : V → Hp → Prop} (hl : Lst H a xs) (hz : xs.length ≤ sizeLine) (h : Nu H (.list xs.reverse) Φ) : WSl B k (.ref a) .none .none (.int (-1)) H Φ := sl_rev hl hz h.out
theorem CompOk.new {F' : FI} {vs0 : List (Option V)} {elt target : PySem.Expr} {ifs : List PySem.Expr} {Ψ : Addr → Hp → Prop} {n : Nat} {Req : Hp → Prop} {Item : Nat → Hp → V → Hp → Prop} {H1 : Hp} (Inv : Nat → List V → Hp → Prop) (hn : n ≤ sizeLine) (h0 : Inv 0 [] H1) (hr : ∀ i v H, Inv i v H → Req H)
    (ht : ∀ i out H v H1, i < n → Inv i out H → Item i H v H1 → WA B k F' target v vs0 H1 fun v2 H2 => WIf B k F' ifs v2 H2 fun b H3 =>
      (b = true → WE B k F' elt v2 H3 fun x H4 => Inv (i + 1) (out ++ [x]) H4) ∧ (b = false → Inv (i + 1) out H3))
    (hf : ∀ out H' D H'', Inv n out H' → H' D = none → Ext H' H'' → H'' D = some (.list out) → Ψ D H'') : CompOk B k F' vs0 elt target ifs Ψ n Req Item H1 :=
  ⟨hn, Inv, hr, h0, ht, fun out H' D hI hD => hf out H' D _ hI hD (Ext.self hD _) (put_self _ _ _)⟩
theorem WIt.rangeN {ie : PySem.Expr} {Ψ : Nat → (Hp → Prop) → (Nat → Hp → V → Hp → Prop) → Hp → Prop} (a b c : Int)
    (h : WE B k F ie vars H fun v H1 => ∃ r, v = .ref r ∧ H1 r = some (.rng a b c) ∧ Builtin.Range.small a b c = true ∧ 0 ≤ Builtin.Range.rangeSize a b c ∧ Ψ (rgCount a b c) (fun _ => True) (fun i H v H' => v = .int (a + i * c) ∧ H' = H) H1) : WIt B k F ie vars H Ψ :=
  .range (h.mono fun _ _ ⟨r, p1, p2, p3, p4, p5⟩ => ⟨r, a, b, c, p1, p2, p3, p4, p5⟩)
end
theorem mem_le_sum : ∀ {l : List Nat} {n : Nat}, n ∈ l → n ≤ l.sum
  | a :: r, n, h => by
    rw [List.sum_cons]
    rcases List.mem_cons.mp h with rfl | h
    · omega
    · have := mem_le_sum h; omega
theorem sum_cast (l : List Nat) : (l.map Int.ofNat).sum = ((l.sum : Nat) : Int) := by
  induction l with
  | nil => rfl
  | cons a r ih => rw [List.map_cons, List.sum_cons, List.sum_cons, ih]; simp
theorem call_sumN {B : Base} {k : Nat} {H : Hp} {a : Addr} {ns : List Nat} {Φ : V → Hp → Prop} (hl : H a = some (.list (vN ns))) (h : Φ (.int ((ns.sum : Nat) : Int)) H) : WC B k (.builtin "sum") [.ref a] H Φ := by
  refine call_sum (ns := ns.map Int.ofNat) (.of (by rw [hl, vN_vI])) ?_
  rw [sum_cast]; exact h
theorem eq_nats {B : Base} {k : Nat} {H : Hp} {a b : Addr} {ns ms : List Nat} {Φ : V → Hp → Prop} (ha : H a = some (.list (vN ns))) (hb : H b = some (.list (vN ms))) (h : Φ (.bool (decide (ns = ms))) H) : WCmp B k .Eq (.ref a) (.ref b) H Φ := by
  refine eq_ints (ns := ns.map Int.ofNat) (ms := ms.map Int.ofNat) (.of (by rw [ha, vN_vI])) (.of (by rw [hb, vN_vI])) ?_
  have : (ns.map Int.ofNat = ms.map Int.ofNat) ↔ ns = ms := List.map_inj_right fun _ _ => Int.ofNat.inj
  rw [decide_eq_decide.mpr this]; exact h
theorem ne_nats {B : Base} {k : Nat} {H : Hp} {a b : Addr} {ns ms : List Nat} {Φ : V → Hp → Prop} (ha : H a = some (.list (vN ns))) (hb : H b = some (.list (vN ms))) (h : Φ (.bool (!decide (ns = ms))) H) : WCmp B k .NotEq (.ref a) (.ref b) H Φ := by
  refine ne_ints (ns := ns.map Int.ofNat) (ms := ms.map Int.ofNat) (.of (by rw [ha, vN_vI])) (.of (by rw [hb, vN_vI])) ?_
  have : (ns.map Int.ofNat = ms.map Int.ofNat) ↔ ns = ms := List.map_inj_right fun _ _ => Int.ofNat.inj
  rw [decide_eq_decide.mpr this]; exact h
theorem at_nat {ns : List Nat} {i n : Nat} (h : ns[i]? = some n) : (vN ns)[((i : Nat) : Int).toNat]? = some (.int (n : Int)) := by simp [vN, h]
theorem set_nat {B : Base} {k : Nat} {H : Hp} {a : Addr} {ns : List Nat} {i n : Nat} {Φ : Hp → Prop} (hl : H a = some (.list (vN ns))) (hi : i < ns.length) (hz : ns.length ≤ 1000) (h : Φ (put H a (.list (vN (ns.set i n))))) : WSet B k (.ref a) (.int i) (.int n) H Φ := by
  refine set_list hl (by omega) (by omega) (by simp; omega) ?_
  have : (vN ns).set ((i : Nat) : Int).toNat (.int (n : Int)) = vN (ns.set i n) := by simp [vN]
  rw [this]; exact h
theorem item_nat {B : Base} {k : Nat} {H : Hp} {a : Addr} {ns : List Nat} {i n : Nat} {Φ : V → Hp → Prop} (hl : H a = some (.list (vN ns))) (hn : ns[i]? = some n) (hz : ns.length ≤ 1000) (h : Φ (.int (n : Int)) H) : WItem B k (.ref a) (.int i) H Φ := by
  have := (List.getElem?_eq_some_iff.mp hn).1
  exact item_list (.of hl) (by omega) (by omega) (at_nat hn) h
theorem append_nat {B : Base} {k : Nat} {H : Hp} {a : Addr} {ns : List Nat} {n : Nat} {Φ : V → Hp → Prop} (hl : H a = some (.list (vN ns))) (hz : ns.length ≤ 1000) (h : Φ .none (put H a (.list (vN (ns ++ [n]))))) : WC B k (.builtin "list.append") [.ref a, .int n] H Φ := by
  refine call_append hl (by simp; show ns.length ≤ 1 <<< 24; omega) ?_
  have : vN ns ++ [V.int (n : Int)] = vN (ns ++ [n]) := by simp [vN]
  rw [this]; exact h
theorem pop_nat {B : Base} {k : Nat} {H : Hp} {a : Addr} {ns : List Nat} {n : Nat} {Φ : V → Hp → Prop} (hl : H a = some (.list (vN (ns ++ [n])))) (hz : ns.length ≤ 1000) (h : Φ (.int (n : Int)) (put H a (.list (vN ns)))) : WC B k (.builtin "list.pop") [.ref a] H Φ := by
  refine call_pop (xs := vN ns) (v := .int n) (by rw [hl]; simp [vN]) (by simp; show ns.length < 1 <<< 24; omega) h
theorem len_nat {B : Base} {k : Nat} {H : Hp} {a : Addr} {ns : List Nat} {Φ : V → Hp → Prop} (hl : H a = some (.list (vN ns))) (hz : ns.length ≤ 1000) (h : Φ (.int ((ns.length : Nat) : Int)) H) : WC B k (.builtin "len") [.ref a] H Φ := by
  refine call_len hl (by simp; omega) ?_
  rw [List.length_map]; exact h
/-! rows of ints, in the heap -/
structure Rows (H0 H : Hp) (p : Addr) (as : List Addr) (rs : List (List Nat)) : Prop where
  top : H p = some (.list (as.map V.ref))
  rows : ∀ (i : Nat) a, as[i]? = some a → ∃ r, rs[i]? = some r ∧ H a = some (.list (vN r))
  nd : as.Nodup
  np : p ∉ as
  new : ∀ a ∈ as, H0 a = none
  len : as.length = rs.length
theorem Rows.get {H0 H : Hp} {p : Addr} {as : List Addr} {rs : List (List Nat)} (R : Rows H0 H p as rs) {κ : Nat} (h : κ < rs.length) : ∃ a, as[κ]? = some a ∧ H a = some (.list (vN (pile rs κ))) := by
  have h' : κ < as.length := by rw [R.len]; exact h
  refine ⟨as[κ], List.getElem?_eq_getElem h', ?_⟩
  obtain ⟨r, h1, h2⟩ := R.rows κ as[κ] (List.getElem?_eq_getElem h')
  rw [h2]
  unfold pile
  rw [List.getD_eq_getElem?_getD, h1]; rfl
theorem Rows.at {H0 H : Hp} {p : Addr} {as : List Addr} {rs : List (List Nat)} (_ : Rows H0 H p as rs) {κ : Nat} {a : Addr} (h : as[κ]? = some a) : (as.map V.ref)[((κ : Nat) : Int).toNat]? = some (.ref a) := by simp [h]
theorem Rows.set {H0 H : Hp} {p : Addr} {as : List Addr} {rs : List (List Nat)} (R : Rows H0 H p as rs) {κ : Nat} {a : Addr} (h : as[κ]? = some a) (r : List Nat) : Rows H0 (put H a (.list (vN r))) p as (rs.set κ r) := by
  have hm : a ∈ as := List.mem_of_getElem? h
  have hlt := (List.getElem?_eq_some_iff.mp h).1
  refine ⟨by rw [put_ne _ _ (by rintro rfl; exact R.np hm)]; exact R.top, fun i b hb => ?_, R.nd, R.np, R.new, by rw [List.length_set]; exact R.len⟩
  by_cases e : i = κ
  · subst e
    rw [h] at hb; cases hb
    exact ⟨r, by rw [List.getElem?_set_self (by rw [← R.len]; exact hlt)], put_self _ _ _⟩
  · obtain ⟨r', h1, h2⟩ := R.rows i b hb
    refine ⟨r', by rw [List.getElem?_set_ne (Ne.symm e)]; exact h1, ?_⟩
    rw [put_ne _ _ (by rintro rfl; exact e (nodup_get R.nd hb h))]; exact h2
theorem Rows.ext {H0 H H' : Hp} {p : Addr} {as : List Addr} {rs : List (List Nat)} (R : Rows H0 H p as rs) (e : Ext H H') : Rows H0 H' p as rs :=
  ⟨e _ _ R.top, fun i a h => let ⟨r, h1, h2⟩ := R.rows i a h; ⟨r, h1, e _ _ h2⟩, R.nd, R.np, R.new, R.len⟩
theorem Rows.ne {H0 H : Hp} {p : Addr} {as : List Addr} {rs : List (List Nat)} (R : Rows H0 H p as rs) {b : Addr} (hb : b ∉ as) (hp : b ≠ p) (o : O) : Rows H0 (put H b o) p as rs :=
  ⟨by rw [put_ne _ _ (Ne.symm hp)]; exact R.top, fun i a h => let ⟨r, h1, h2⟩ := R.rows i a h; ⟨r, h1, by rw [put_ne _ _ (by rintro rfl; exact hb (List.mem_of_getElem? h))]; exact h2⟩, R.nd, R.np, R.new, R.len⟩
end Mine
end
open PySem PySem.W PyProof.Rows
noncomputable section
namespace Mine
set_option maxHeartbeats 0
local macro_rules | `(tactic| walk_at "AT") => `(tactic| (with_reducible (repeat (first | exact At.head | exact SetAt.head | apply At.tail | apply SetAt.tail)); done))
local macro_rules | `(tactic| walk_at "M") => `(tactic| with_reducible (first
  | refine WE.int ?_ | refine WE.str ?_ | refine WE.cnone ?_ | refine WE.bool ?_ | refine WE.loc (by walk_at "AT") ?_ | refine WE.cel (by (repeat (first | exact List.mem_cons_self | apply List.mem_cons_of_mem)); first | done | fail) (by assumption) ?_ | refine WE.blt (by first | decide +kernel | (dsimp only; decide +kernel)) (by assumption) (by assumption) ?_ | refine WE.glo (by first | decide +kernel | (dsimp only; decide +kernel)) (by assumption) ?_ | refine WE.bin ?_ | refine WT.cmp ?_ | refine WE.cmp ?_ | refine WT.not ?_ | refine WE.ifx ?_ | refine WE.neg ?_ | refine bin_add ?_ | refine bin_sub ?_ | refine cmp_lt ?_ | refine cmp_gt ?_ | refine cmp_ge ?_ | refine cmp_eq ?_ | refine cmp_ne ?_ | refine cmp_eqs ?_ | refine cmp_nes ?_ | refine tr_bool ?_ | refine inp_add ?_ | refine inp_sub ?_ | refine WSs.ife ?_ | refine WSs.assign ?_ | refine WSs.aug (by walk_at "AT") ?_ | refine WSt.loc (by walk_at "AT") ?_ | refine WSs.nil ?_ | refine WSs.ret ?_ | refine WSs.expr ?_ | refine thenDo_next ?_ | refine thenDo_ret ?_ | refine turn_next ?_ | refine turn_ret ?_ | refine retV_ret ?_ | refine retV_next ?_ | refine WBs.cons ?_ | refine WBs.nil ?_ | refine WPt.none ?_ | refine WPt.some ?_ | refine WIf.nil ?_ | refine WIf.one ?_ | refine WEs.cons ?_ | refine WEs.nil ?_ | refine WE.call ?_ | refine call_range1N ?_ | refine call_range2N ?_ | (refine And.intro Callee.blt (fun _ i => ?_); cases i) | (refine And.intro Callee.typ (fun _ i => ?_); cases i) | refine WE.slice ?_ | refine WE.append ?_ | refine WE.pop ?_ | refine WE.join ?_ | refine WE.index ?_ | refine WE.get ?_ | refine WE.sub ?_ | refine WAs.cons ?_ | refine WAs.nil ?_ | refine WSs.assignT ?_ | refine WA.name ?_ | refine WA.sub ?_ | refine WE.listN ?_ | refine WE.tupN ?_ | refine And.intro (fun hc => absurd hc (by decide)) (fun _ => ?_) | refine And.intro (fun _ => ?_) (fun hc => absurd hc (by decide))))
local macro_rules | `(tactic| walk_at "CL") => `(tactic| exact ⟨by decide +kernel, by decide +kernel, by decide +kernel, by first | rfl | decide +kernel, by first | rfl | decide +kernel, by decide +kernel, by decide +kernel, by decide +kernel, by decide +kernel, by decide +kernel, by rfl, by decide +kernel⟩)
local macro_rules | `(tactic| walk_at "LK") => `(tactic| exact ⟨by decide +kernel, by decide +kernel, by decide +kernel, by decide +kernel, by rfl⟩)
local macro_rules | `(tactic| walk_at "B1") => `(tactic| (intro vals hv fd hp hd hk; obtain ⟨v, e⟩ := List.length_eq_one_iff.mp hv; subst e; unfold bindArgs; rw [hp, hd]; rfl))
local macro_rules | `(tactic| walk_at "B2") => `(tactic| (intro vals hv fd hp hd hk; obtain ⟨v, u, e⟩ := List.length_eq_two.mp hv; subst e; unfold bindArgs; rw [hp, hd]; rfl))
local macro_rules | `(tactic| walk_at "SW") => `(tactic| (intro env h; obtain ⟨⟩ := env; cases h; rfl))
section
def at1 (n : Nat) : Stmt := PySem.Challenge.pw_sl0019_01.main.body.getD n (.Pass ⟨0, 0, 0, 0⟩)
/-- a def of the program -/
abbrev Def1 (B : Base) (n : Nat) (a : Addr) (dv kdv : Value) (g : Bool := false) : Prop := DefAt B a (sArgs (at1 n)) (sBody (at1 n)) (sScope (at1 n)) dv kdv g
theorem br_looks : Looks (sScope (at1 1)) ["a", "x", "lo", "hi", "key", "mid"] [none, none, none, none, none, none] where
  nd := by decide +kernel
  lo := by decide +kernel
  cel := by decide +kernel
  cn := by decide +kernel
  vs := by rfl
theorem bl_looks : Looks (sScope (at1 2)) ["a", "x", "lo", "hi", "key", "mid"] [none, none, none, none, none, none] where
  nd := by decide +kernel
  lo := by decide +kernel
  cel := by decide +kernel
  cn := by decide +kernel
  vs := by rfl
def goR (ns : List Nat) (n : Nat) : Nat → Nat → Nat → Nat
  | 0, lo, _ => lo
  | f + 1, lo, hi => if lo < hi then (if n < ns.getD ((lo + hi) / 2) 0 then goR ns n f lo ((lo + hi) / 2) else goR ns n f ((lo + hi) / 2 + 1) hi) else lo
def bisR (ns : List Nat) (n : Nat) : Nat := goR ns n ns.length 0 ns.length
def goL (ns : List Nat) (n : Nat) : Nat → Nat → Nat → Nat
  | 0, lo, _ => lo
  | f + 1, lo, hi => if lo < hi then (if ns.getD ((lo + hi) / 2) 0 < n then goL ns n f ((lo + hi) / 2 + 1) hi else goL ns n f lo ((lo + hi) / 2)) else lo
def bisL (ns : List Nat) (n : Nat) : Nat := goL ns n ns.length 0 ns.length
structure Bis (B : Base) (n a : Nat) (s : Str) : Prop where
  mg : B.mg s = some (.ref a)
  len : B.mg "len" = none
  len' : B.mb "len" = some (.builtin "len")
  df : ∃ dv kdv, Def1 B n a dv kdv ∧ ∀ x y, Binding B (sArgs (at1 n)) dv kdv [] [x, y] [("a", x), ("x", y), ("lo", .int 0), ("hi", .none), ("key", .none)]
theorem vN_get {ns : List Nat} {i : Nat} (h : i < ns.length) : (vN ns)[((i : Nat) : Int).toNat]? = some (.int ((ns.getD i 0 : Nat) : Int)) := by
  simp [vN, h, List.getD]
theorem br_ok {B : Base} {k a : Nat} (g : Bis B 1 a "bisect_right") {H : Hp} {l : Addr} {ns : List Nat} {n : Nat} {Φ : V → Hp → Prop} (hl : H l = some (.list (vN ns))) (hz : ns.length ≤ 1000) (h : Φ (.int (bisR ns n)) H) :
    WC B (k + 1) (.ref a) [.ref l, .int n] H Φ := by
  obtain ⟨dv, kdv, D, hb⟩ := g.df
  refine WC.def0 D br_looks (hb _ _) (by decide +kernel) (by with_unfolding_all rfl) ?_
  have m1 := g.len
  have m2 := g.len'
  repeat walk_at "M"
  refine cmp_is (b := true) (by rintro v ⟨⟩; rfl) ?_
  repeat walk_at "M"
  refine call_len hl (by simp; omega) ?_
  repeat walk_at "M"
  refine cmp_is (b := true) (by rintro v ⟨⟩; rfl) ?_
  repeat walk_at "M"
  refine WSs.while (fun m vars H' => H' = H ∧ ∃ (lo hi : Nat) (o : Option V), vars = [some (V.ref l), some (V.int n), some (V.int lo), some (.int hi), some .none, o] ∧ lo ≤ hi ∧ hi ≤ ns.length ∧ hi - lo ≤ m ∧ goR ns n m lo hi = bisR ns n) ns.length ?_ ?_
  · exact ⟨rfl, 0, ns.length, none, by simp, by omega, by omega, by omega, rfl⟩
  rintro m vars H' ⟨rfl, lo, hi, o, rfl, h1, h2, h3, h4⟩
  repeat walk_at "M"
  refine ⟨fun hc => ?_, fun hc => ?_⟩
  · have hlt : lo < hi := by simpa using hc
    obtain ⟨m, rfl⟩ : ∃ m', m = m' + 1 := ⟨m - 1, by omega⟩
    rw [goR, if_pos hlt] at h4
    repeat walk_at "M"
    refine bin_divn (i := lo + hi) (j := 2) (by omega) (by omega) ?_
    repeat walk_at "M"
    refine item_list (.of hl) (by omega) (by omega) (vN_get (by omega)) ?_
    repeat walk_at "M"
    refine ⟨fun hc => ?_, fun hc => ?_⟩
    · rw [if_pos (by simpa using hc)] at h4
      repeat walk_at "M"
      exact ⟨m, by omega, rfl, lo, (lo + hi) / 2, _, rfl, by omega, by omega, by omega, h4⟩
    · rw [if_neg (by simpa using hc)] at h4
      repeat walk_at "M"
      exact ⟨m, by omega, rfl, (lo + hi) / 2 + 1, hi, _, rfl, by omega, by omega, by omega, h4⟩
  · have hlt : ¬ lo < hi := by simpa using hc
    have : lo = bisR ns n := by
      rw [← h4]
      cases m with
      | zero => rfl
      | succ m => rw [goR, if_neg hlt]
    repeat walk_at "M"
    rw [this]; exact h
theorem bl_ok {B : Base} {k a : Nat} (g : Bis B 2 a "bisect_left") {H : Hp} {l : Addr} {ns : List Nat} {n : Nat} {Φ : V → Hp → Prop} (hl : H l = some (.list (vN ns))) (hz : ns.length ≤ 1000) (h : Φ (.int (bisL ns n)) H) :
    WC B (k + 1) (.ref a) [.ref l, .int n] H Φ := by
  obtain ⟨dv, kdv, D, hb⟩ := g.df
  refine WC.def0 D bl_looks (hb _ _) (by decide +kernel) (by with_unfolding_all rfl) ?_
  have m1 := g.len
  have m2 := g.len'
  repeat walk_at "M"
  refine cmp_is (b := true) (by rintro v ⟨⟩; rfl) ?_
  repeat walk_at "M"
  refine call_len hl (by simp; omega) ?_
  repeat walk_at "M"
  refine cmp_is (b := true) (by rintro v ⟨⟩; rfl) ?_
  repeat walk_at "M"
  refine WSs.while (fun m vars H' => H' = H ∧ ∃ (lo hi : Nat) (o : Option V), vars = [some (V.ref l), some (V.int n), some (V.int lo), some (.int hi), some .none, o] ∧ lo ≤ hi ∧ hi ≤ ns.length ∧ hi - lo ≤ m ∧ goL ns n m lo hi = bisL ns n) ns.length ?_ ?_
  · exact ⟨rfl, 0, ns.length, none, by simp, by omega, by omega, by omega, rfl⟩
  rintro m vars H' ⟨rfl, lo, hi, o, rfl, h1, h2, h3, h4⟩
  repeat walk_at "M"
  refine ⟨fun hc => ?_, fun hc => ?_⟩
  · have hlt : lo < hi := by simpa using hc
    obtain ⟨m, rfl⟩ : ∃ m', m = m' + 1 := ⟨m - 1, by omega⟩
    rw [goL, if_pos hlt] at h4
    repeat walk_at "M"
    refine bin_divn (i := lo + hi) (j := 2) (by omega) (by omega) ?_
    repeat walk_at "M"
    refine item_list (.of hl) (by omega) (by omega) (vN_get (by omega)) ?_
    repeat walk_at "M"
    refine ⟨fun hc => ?_, fun hc => ?_⟩
    · rw [if_pos (by simpa using hc)] at h4
      repeat walk_at "M"
      exact ⟨m, by omega, rfl, (lo + hi) / 2 + 1, hi, _, rfl, by omega, by omega, by omega, h4⟩
    · rw [if_neg (by simpa using hc)] at h4
      repeat walk_at "M"
      exact ⟨m, by omega, rfl, lo, (lo + hi) / 2, _, rfl, by omega, by omega, by omega, h4⟩
  · have hlt : ¬ lo < hi := by simpa using hc
    have : lo = bisL ns n := by
      rw [← h4]
      cases m with
      | zero => rfl
      | succ m => rw [goL, if_neg hlt]
    repeat walk_at "M"
    rw [this]; exact h
end
section
theorem Ext.new {H H' : Hp} (h : Ext H H') {t : Addr} (n : H' t = none) : H t = none := by
  cases e : H t with
  | none => rfl
  | some o => rw [h t o e] at n; cases n
theorem Ext.putNew {H H' : Hp} (h : Ext H H') {t : Addr} (n : H' t = none) (o : O) : Ext H (Mine.put H' t o) := h.put o (h.new n)
theorem put_get {H : Hp} {t r : Addr} {o v : O} (hr : H r = some v) (ht : H t = none) : put H t o r = some v := by
  rw [put_ne _ _ (by rintro rfl; rw [hr] at ht; cases ht)]; exact hr
theorem ne_of {H : Hp} {t r : Addr} {v : O} (hr : H r = some v) (ht : H t = none) : r ≠ t := by rintro rfl; rw [hr] at ht; cases ht
theorem escs_length : ∀ (l : List Nat) (i : Nat) (b : Bool), (escs i b l).length ≤ l.length
  | [], _, _ => by unfold escs; simp
  | c :: r, i, true => by unfold escs; simp only [List.length_cons]; have := escs_length r (i + 1) false; omega
  | c :: r, i, false => by
    unfold escs
    split
    · have := escs_length r (i + 1) true; simp only [List.length_cons]; omega
    · simp only [List.length_cons]; have := escs_length r (i + 1) false; omega

theorem WS.assign {B : Base} {k : Nat} {F : FI} {vars : List (Option V)} {H : Hp} {x : Str} {p pos : Pos} {e : PySem.Expr} {Φ : Fl → List (Option V) → Hp → Prop} (h : WE B k F e vars H fun v H1 => WSt B k F x v vars H1 fun v1 H2 => Φ .next v1 H2)
    (hs : ∀ env : Env, env.scope = F.sc → swapsWith e (some (.Name x p)) pos.line env = pure false := by intro _ _; with_unfolding_all rfl) : WS B k F (.Assign [.Name x p] e pos) vars H Φ := fun A env P s r i f o => by
  refine wpAny_Assign_Name (wpAny_mono (h A env P s r i f o) ?_ fun _ _ f => f.elim) (hs env f.sc)
  rintro val s1 ⟨v, H1, ia, f1, o1, h1⟩
  refine wpAny_mono (h1 A env P s1 val r i f1 o1 ia) ?_ fun _ _ f => f.elim
  rintro _ s2 ⟨v2, H2, f2, o2, h2⟩
  exact ⟨_, _, _, .next, f2, o2, h2⟩

/-! the generator -/
theorem gen_def {B : Base} {a0 : Addr} (D : Def1 B 4 a0 .none .none true) (m1 : B.mg "enumerate" = none) (m2 : B.mb "enumerate" = some (.type "enumerate")) (k : Nat) : GenDef B a0 k := by
  refine ⟨_, _, ["addr", "pos", "escape", "ch"], "addr", "pos", "escape", "enumerate", "addr", _, _, _, _, _, _, _, _, _, _, _, _, _, _, _, _, _, _, _, _, _, _, _, _, _, _, _, _, _, _, _, _, D, ⟨by decide +kernel, by decide +kernel, by decide +kernel, by decide +kernel, by rfl⟩, by decide +kernel, fun x => ?_, fun x => .head, fun x => ?_⟩
  · refine binding_plain (names := ["addr"]) rfl fun vals hv fd hp hd hk => ?_
    obtain ⟨v, rfl⟩ := List.length_eq_one_iff.mp hv
    unfold bindArgs; rw [hp, hd]; rfl
  · constructor
    · exact .tail .head
    · exact .tail (.tail .head)
    · exact ⟨by decide +kernel, m1, m2, by decide +kernel⟩
    · exact ⟨.head, by decide +kernel⟩
    · exact fun env => ⟨rfl, rfl⟩
    · intro p e c i ch; repeat walk_at "M"
      rfl
    · intro p e c; refine WT.plain ?_; repeat walk_at "M"
      rfl
    · intro i e c; repeat walk_at "M"
      refine bin_adds (by show 2 ≤ sizeLine; decide +kernel) ?_
      repeat walk_at "M"
      exact ⟨by show 2 ≤ sizeLine; decide +kernel, fun a _ _ _ e => ⟨a, rfl, e⟩⟩
    · intro p e c
      refine WS.assign ?_
      repeat walk_at "M"
      exact ⟨rfl, rfl⟩
    · intro p e c; repeat walk_at "M"
      rw [decide_eq_decide]
      have : Str.ofString "\\" = ⟨#[92]⟩ := by decide +kernel
      rw [this]
      constructor
      · intro h; injection h with h; simpa using h
      · rintro rfl; rfl
    · intro p e c
      refine WS.assign ?_
      repeat walk_at "M"
      exact ⟨rfl, rfl⟩
    · intro i e c; repeat walk_at "M"
      exact ⟨by show 2 ≤ sizeLine; decide +kernel, fun a _ _ _ e => ⟨a, rfl, e⟩⟩
    · intro p e c; refine WT.plain ?_; repeat walk_at "M"
      rfl

/-! ISEOF -/
theorem eof_ok {B : Base} {k a : Nat} (D : Def1 B 58 a .none .none) (m1 : B.mg "ENDMARKER" = some (.int 0 t0)) {H : Hp} {i : Int} {Φ : V → Hp → Prop} (h : Φ (.bool (decide (i = 0))) H) :
    WC B (k + 1) (.ref a) [.int i] H Φ := by
  refine WC.def0 D ⟨by decide +kernel, by decide +kernel, by decide +kernel, by decide +kernel, by rfl⟩ (names := ["x"]) (vs0 := [none]) (bs := [("x", .int i)]) (binding_plain (names := ["x"]) rfl fun vals hv fd hp hd hk => ?_) (by decide +kernel) (by with_unfolding_all rfl) ?_
  · obtain ⟨v, rfl⟩ := List.length_eq_one_iff.mp hv
    unfold bindArgs; rw [hp, hd]; rfl
  repeat walk_at "M"
  refine WO.two fun A P s x y r ib o hx hy => ?_
  cases hx; cases hy
  refine PySem.P.eq_int ⟨_, _, .bool _, o, ?_⟩
  rw [beq_dec]; exact h

/-! the quoted parts left out -/
abbrev StSt := Int × Option Int × List Str
def stStep (x : Str) (s : StSt) (q : Int × Str) : StSt :=
  if q.2 = "\"" then (match s.2.1 with | none => (s.1, some q.1, s.2.2) | some o => (q.1 + 1, none, if s.1 ≠ o then s.2.2 ++ [Txt.slice x (some s.1) (some o)] else s.2.2)) else s
def stFin (x : Str) (s : StSt) : List Str := if s.1 < x.length then s.2.2 ++ [Txt.slice x (some s.1) none] else s.2.2
def stripS (x : Str) : Str := if 34 ∈ x.cps.toList then Txt.join "" (stFin x ((escs 0 false x.cps.toList).foldl (stStep x) (0, none, []))) else x
theorem stStep_acc (x : Str) (s : StSt) (q : Int × Str) (n : Nat) (h : s.2.2.length ≤ n ∧ ∀ y ∈ s.2.2, y.length ≤ x.length) : (stStep x s q).2.2.length ≤ n + 1 ∧ ∀ y ∈ (stStep x s q).2.2, y.length ≤ x.length := by
  obtain ⟨h1, h2⟩ := h
  unfold stStep
  split
  · split
    · exact ⟨Nat.le_succ_of_le h1, h2⟩
    · dsimp only
      split
      · refine ⟨by simp; omega, fun y hy => ?_⟩
        rcases List.mem_append.mp hy with hy | hy
        · exact h2 y hy
        · rw [List.mem_singleton.mp hy]; exact Txt.slice_le _ _ _
      · exact ⟨Nat.le_succ_of_le h1, h2⟩
  · exact ⟨Nat.le_succ_of_le h1, h2⟩
theorem sum_le_mul {l : List Nat} {m : Nat} (h : ∀ n ∈ l, n ≤ m) : l.sum ≤ l.length * m := by
  induction l with
  | nil => simp
  | cons a r ih =>
    rw [List.sum_cons, List.length_cons, Nat.succ_mul]
    have := ih fun n hn => h n (List.mem_cons_of_mem _ hn)
    have := h a List.mem_cons_self
    omega
def optV (o : Option Int) : V := match o with | none => .none | some i => .int i
theorem strip_ok {B : Base} {k a : Nat} (D : Def1 B 5 a .none .none) {a0 : Addr} (D0 : Def1 B 4 a0 .none .none true) (n1 : B.mg "enumerate" = none) (n2 : B.mb "enumerate" = some (.type "enumerate")) (m1 : B.mg "_iter_escaped_chars" = some (.ref a0)) (m2 : B.mg "len" = none) (m3 : B.mb "len" = some (.builtin "len"))
    {H : Hp} {x : Str} {Φ : V → Hp → Prop} (hx : x.length ≤ 500) (hle : left false x.cps.toList = false) (h : ∀ H', Ext H H' → Φ (.str (stripS x)) H') : WC B (k + 3) (.ref a) [.str x] H Φ := by
  have GD := gen_def D0 n1 n2 k
  refine WC.def0 D ⟨by decide +kernel, by decide +kernel, by decide +kernel, by decide +kernel, by rfl⟩ (names := ["addr", "start", "open_pos", "result", "pos", "ch"]) (vs0 := [none, none, none, none, none, none]) (bs := [("addr", .str x)]) (binding_plain (names := ["addr"]) rfl fun vals hv fd hp hd hk => ?_) (by decide +kernel) (by with_unfolding_all rfl) ?_
  · obtain ⟨v, rfl⟩ := List.length_eq_one_iff.mp hv
    unfold bindArgs; rw [hp, hd]; rfl
  repeat walk_at "M"
  refine cmp_notIn (c := 34) ?_
  repeat walk_at "M"
  refine ⟨fun hc => ?_, fun hc => ?_⟩
  · have : ¬ 34 ∈ x.cps.toList := by simpa using hc
    repeat walk_at "M"
    have e : stripS x = x := by unfold stripS; rw [if_neg this]
    rw [← e]; exact h H (Ext.refl _)
  have hq : 34 ∈ x.cps.toList := by simpa using hc
  repeat walk_at "M"
  refine ⟨by decide +kernel, fun r Hr hr er fr => ?_⟩
  repeat walk_at "M"
  refine WSs.for (WIt.gen GD (by decide +kernel) m1 ?_)
  repeat walk_at "M"
  refine ⟨x, rfl, hle, fun i vars H' => Ext H H' ∧ ∃ (s : StSt) (o1 o2 : Option V), s = ((escs 0 false x.cps.toList).take i).foldl (stStep x) (0, none, []) ∧ H' r = some (.list (vS s.2.2)) ∧ vars = [some (.str x), some (.int s.1), some (optV s.2.1), some (.ref r), o1, o2] ∧ s.2.2.length ≤ i ∧ ∀ y ∈ s.2.2, y.length ≤ x.length, ?_, ?_, ?_, ?_⟩
  · exact ⟨er, (0, none, []), none, none, rfl, fr, rfl, Nat.zero_le _, fun _ h => nomatch h⟩
  · exact fun _ _ _ _ => trivial
  · rintro i vars H' v H1 hi ⟨hE, s, o1, o2, hs, hrl, rfl, hlen, hacc⟩ ⟨t, p, y, hit, rfl, ht, rfl⟩
    have hn : ((escs 0 false x.cps.toList).take (i + 1)).foldl (stStep x) (0, none, []) = stStep x s (p, y) := by
      rw [List.take_add_one, hit, List.foldl_append, ← hs]; rfl
    have hE1 := hE.putNew ht (.tup [.int p, .str y])
    have hr1 := put_get (o := .tup [.int p, .str y]) hrl ht
    have hst := stStep_acc x s (p, y) i ⟨hlen, hacc⟩
    have hil := escs_length x.cps.toList 0 false
    have hxl : x.cps.toList.length = x.length := by simp [Str.length]
    refine WA.tup (put_self _ _ _) ?_
    repeat walk_at "M"
    refine ⟨fun hc => ?_, fun hc => ?_⟩
    · have hy : y = "\"" := by simpa using hc
      subst hy
      obtain ⟨st, op, acc⟩ := s
      cases op with
      | none =>
        dsimp only [optV]
        repeat walk_at "M"
        refine cmp_is (b := true) (by rintro v ⟨⟩; rfl) ?_
        repeat walk_at "M"
        have e : stStep x (st, none, acc) (p, "\"") = (st, some p, acc) := by unfold stStep; rw [if_pos rfl]
        rw [e] at hn hst
        exact ⟨hE1, _, _, _, hn.symm, hr1, rfl, hst.1, hst.2⟩
      | some op =>
        have e : stStep x (st, some op, acc) (p, "\"") = (p + 1, none, if st ≠ op then acc ++ [Txt.slice x (some st) (some op)] else acc) := by unfold stStep; rw [if_pos rfl]
        rw [e] at hn hst
        dsimp only [optV]
        repeat walk_at "M"
        refine cmp_is (b := false) (by rintro v ⟨⟩; rfl) ?_
        repeat walk_at "M"
        refine ⟨fun hc => ?_, fun hc => ?_⟩
        · have hne : st ≠ op := by simpa using hc
          rw [if_pos hne] at hn hst
          repeat walk_at "M"
          refine ⟨mty_list hr1, ?_⟩
          repeat walk_at "M"
          refine sl_str (lo := some st) (hi := some op) (by show x.length ≤ 1 <<< 24; omega) ?_
          repeat walk_at "M"
          refine call_append hr1 (by simp; show acc.length ≤ 1 <<< 24; dsimp only at hlen; omega) ?_
          refine ⟨rfl, ?_⟩
          repeat walk_at "M"
          refine ⟨hE1.put _ hr, _, _, _, hn.symm, ?_, rfl, hst.1, hst.2⟩
          rw [put_self]; simp [vS]
        · have hne : ¬ st ≠ op := by simpa using hc
          rw [if_neg hne] at hn hst
          repeat walk_at "M"
          exact ⟨hE1, _, _, _, hn.symm, hr1, rfl, hst.1, hst.2⟩
    · have hy : ¬ y = "\"" := by simpa using hc
      have e : stStep x s (p, y) = s := by unfold stStep; rw [if_neg hy]
      rw [e] at hn hst
      repeat walk_at "M"
      exact ⟨hE1, _, _, _, hn.symm, hr1, rfl, hst.1, hst.2⟩
  rintro vars H' ⟨hE, s, o1, o2, hs, hrl, rfl, hlen, hacc⟩
  rw [List.take_length] at hs
  have hil := escs_length x.cps.toList 0 false
  have hxl : x.cps.toList.length = x.length := by simp [Str.length]
  have fin : ∀ H2 : Hp, Ext H H2 → H2 r = some (.list (vS (stFin x s))) → ((stFin x s).length ≤ 501 ∧ ∀ y ∈ stFin x s, y.length ≤ x.length) → JoinOk "" (stFin x s) = true ∧ Φ (.str (Txt.join "" (stFin x s))) H2 := fun H2 hE2 _ hl => by
    refine ⟨joinOk_of_weight ?_ (by decide +kernel), ?_⟩
    · have h1 := sum_le_mul (l := (stFin x s).map (·.length)) (m := x.length) fun n hn => by obtain ⟨y, hy, rfl⟩ := List.mem_map.mp hn; exact hl.2 y hy
      rw [List.length_map] at h1
      have h2 : (stFin x s).length * x.length ≤ 501 * 500 := Nat.mul_le_mul hl.1 hx
      omega
    · have e : stripS x = Txt.join "" (stFin x s) := by unfold stripS; rw [if_pos hq, ← hs]
      rw [← e]; exact h _ hE2
  repeat walk_at "M"
  refine call_lens (by omega) ?_
  repeat walk_at "M"
  refine ⟨fun hc => ?_, fun hc => ?_⟩
  · have hlt : s.1 < x.length := by simpa using hc
    have e : stFin x s = s.2.2 ++ [Txt.slice x (some s.1) none] := by unfold stFin; rw [if_pos hlt]
    rw [e] at fin
    repeat walk_at "M"
    refine ⟨mty_list hrl, ?_⟩
    repeat walk_at "M"
    refine sl_str (lo := some s.1) (hi := none) (by show x.length ≤ 1 <<< 24; omega) ?_
    repeat walk_at "M"
    refine call_append hrl (by simp; show s.2.2.length ≤ 1 <<< 24; omega) ?_
    refine ⟨rfl, ?_⟩
    repeat walk_at "M"
    refine ⟨mty_str, ?_⟩
    repeat walk_at "M"
    obtain ⟨f1, f2⟩ := fin (put H' r (.list (vS s.2.2 ++ [.str (Txt.slice x (some s.1) none)]))) (hE.put _ hr) (by rw [put_self]; simp [vS]) ⟨by simp; omega, fun y hy => by
      rcases List.mem_append.mp hy with hy | hy
      · exact hacc y hy
      · rw [List.mem_singleton.mp hy]; exact Txt.slice_le _ _ _⟩
    refine call_join (ns := s.2.2 ++ [Txt.slice x (some s.1) none]) (.of (by rw [put_self]; simp [vS])) f1 ?_
    repeat walk_at "M"
    exact f2
  · have hlt : ¬ s.1 < x.length := by simpa using hc
    have e : stFin x s = s.2.2 := by unfold stFin; rw [if_neg hlt]
    rw [e] at fin
    repeat walk_at "M"
    refine ⟨mty_str, ?_⟩
    repeat walk_at "M"
    obtain ⟨f1, f2⟩ := fin H' hE hrl ⟨by omega, hacc⟩
    refine call_join (.of hrl) f1 ?_
    repeat walk_at "M"
    exact f2
end
section
def chk : List (Int × Str) → Int → Bool
  | [], o => decide (o = 0)
  | (_, y) :: r, o => if y = "(" then chk r (o + 1) else if y = ")" then (if o - 1 < 0 then false else chk r (o - 1)) else chk r o
def chkS (x : Str) : Bool := chk (escs 0 false (stripS x).cps.toList) 0
/-- what the readers of mail need -/
structure Mail (B : Base) (a0 a1 : Addr) : Prop where
  D0 : Def1 B 4 a0 .none .none true
  D1 : Def1 B 5 a1 .none .none
  n1 : B.mg "enumerate" = none
  n2 : B.mb "enumerate" = some (.type "enumerate")
  n3 : B.mg "len" = none
  n4 : B.mb "len" = some (.builtin "len")
  m0 : B.mg "_iter_escaped_chars" = some (.ref a0)
  m1 : B.mg "_strip_quoted_realnames" = some (.ref a1)
/-- a text that the readers take to its end -/
structure Plain (x : Str) : Prop where
  len : x.length ≤ 500
  l1 : left false x.cps.toList = false
  l2 : left false (stripS x).cps.toList = false
  l3 : (stripS x).length ≤ 500
theorem Mail.strip {B : Base} {a0 a1 : Addr} (m : Mail B a0 a1) {k : Nat} {H : Hp} {x : Str} {Φ : V → Hp → Prop} (p : Plain x) (h : ∀ H', Ext H H' → Φ (.str (stripS x)) H') : WC B (k + 3) (.ref a1) [.str x] H Φ :=
  strip_ok m.D1 m.D0 m.n1 m.n2 m.m0 m.n3 m.n4 p.len p.l1 h
theorem check_ok {B : Base} {k a a0 a1 : Nat} (D : Def1 B 6 a .none .none) (m : Mail B a0 a1) {H : Hp} {x : Str} {Φ : V → Hp → Prop} (p : Plain x) (h : ∀ H', Ext H H' → Φ (.bool (chkS x)) H') : WC B (k + 4) (.ref a) [.str x] H Φ := by
  have GD := gen_def m.D0 m.n1 m.n2 (k + 1)
  have m0 := m.m0
  have m1 := m.m1
  refine WC.def0 D ?_ (names := ["addr", "opens", "pos", "ch"]) (vs0 := [none, none, none, none]) (bs := [("addr", .str x)]) (binding_plain (names := ["addr"]) rfl ?_) (by decide +kernel) (by with_unfolding_all rfl) ?_
  · walk_at "LK"
  · walk_at "B1"
  repeat walk_at "M"
  refine ⟨m.D1.callee _, fun _ i => ?_⟩
  cases i
  refine m.strip p fun H1 hE => ?_
  repeat walk_at "M"
  refine WSs.for (WIt.gen GD (by decide +kernel) m0 ?_)
  repeat walk_at "M"
  refine ⟨_, rfl, p.l2, fun i vars H' => Ext H H' ∧ ∃ (o : Int) (o1 o2 : Option V), chk ((escs 0 false (stripS x).cps.toList).drop i) o = chkS x ∧ vars = [some (.str (stripS x)), some (.int o), o1, o2], ?_, ?_, ?_, ?_⟩
  · exact ⟨hE, 0, none, none, rfl, rfl⟩
  · exact fun _ _ _ _ => trivial
  · rintro i vars H' v H2 hi ⟨hE, o, o1, o2, hs, rfl⟩ ⟨t, q, y, hit, rfl, ht, rfl⟩
    have hE1 := hE.putNew ht (.tup [.int q, .str y])
    have hd : (escs 0 false (stripS x).cps.toList).drop i = (q, y) :: (escs 0 false (stripS x).cps.toList).drop (i + 1) := by
      rw [List.drop_eq_getElem_cons hi]
      rw [List.getElem?_eq_getElem hi] at hit
      rw [Option.some.inj hit]
    rw [hd, chk] at hs
    refine WA.tup (put_self _ _ _) ?_
    repeat walk_at "M"
    refine ⟨fun hc => ?_, fun hc => ?_⟩
    · rw [if_pos (by simpa using hc)] at hs
      repeat walk_at "M"
      exact ⟨hE1, _, _, _, hs, rfl⟩
    · rw [if_neg (by simpa using hc)] at hs
      repeat walk_at "M"
      refine ⟨fun hc => ?_, fun hc => ?_⟩
      · rw [if_pos (by simpa using hc)] at hs
        repeat walk_at "M"
        refine ⟨fun hc => ?_, fun hc => ?_⟩
        · rw [if_pos (by simpa using hc)] at hs
          repeat walk_at "M"
          rw [hs]; exact h _ hE1
        · rw [if_neg (by simpa using hc)] at hs
          repeat walk_at "M"
          exact ⟨hE1, _, _, _, hs, rfl⟩
      · rw [if_neg (by simpa using hc)] at hs
        repeat walk_at "M"
        exact ⟨hE1, _, _, _, hs, rfl⟩
  rintro vars H' ⟨hE, o, o1, o2, hs, rfl⟩
  rw [List.drop_length, chk] at hs
  repeat walk_at "M"
  rw [hs]; exact h _ hE

/-! the reader -/
structure Read (B : Base) (a0 a1 ae : Addr) (code : Str → Nat) : Prop where
  mail : Mail B a0 a1
  E : Def1 B 58 ae .none .none
  e0 : ∃ t, B.mg "ENDMARKER" = some (.int 0 t)
  e1 : B.mg "ISEOF" = some (.ref ae)
  tab : ∃ d f, B.mg "EXACT_TOKEN_TYPES" = some (.ref d) ∧ Tab B d f ∧ ∀ y, (∀ z, f y = some z → ∃ t, z = .int (code y) t) ∧ (f y = none → code y = 0)
def readN (code : Str → Nat) (x : Str) : List Nat := ((escs 0 false (stripS x).cps.toList).map fun q => code q.2).filter (· ≠ 0)
theorem read_ok {B : Base} {k a a0 a1 ae : Nat} {code : Str → Nat} (D : Def1 B 61 a .none .none) (m : Read B a0 a1 ae code) {H : Hp} {x : Str} {Φ : V → Hp → Prop} (p : Plain x) (h : ∀ H' r, Ext H H' → H r = none → H' r = some (.list (vN (readN code x))) → Φ (.ref r) H') : WC B (k + 4) (.ref a) [.str x] H Φ := by
  have GD := gen_def m.mail.D0 m.mail.n1 m.mail.n2 (k + 1)
  have m0 := m.mail.m0
  have m1 := m.mail.m1
  have e1 := m.e1
  obtain ⟨t0, e0⟩ := m.e0
  obtain ⟨d, f, hd, T, hf⟩ := m.tab
  refine WC.def0 D ?_ (names := ["text", "pieces", "kinds"]) (vs0 := [none, none, none]) (bs := [("text", .str x)]) (binding_plain (names := ["text"]) rfl ?_) (by decide +kernel) (by with_unfolding_all rfl) ?_
  · walk_at "LK"
  · walk_at "B1"
  repeat walk_at "M"
  refine WSs.assignC [] ["place", "piece"] [none, none] ?_ (fun _ h => nomatch h) ?_ ?_
  · walk_at "CL"
  case refine_3 => walk_at "SW"
  refine WIt.gen GD (by decide +kernel) m0 ?_
  repeat walk_at "M"
  refine ⟨m.mail.D1.callee _, fun _ i => ?_⟩
  cases i
  refine m.mail.strip p fun H1 hE1 => ?_
  have hlen : (escs 0 false (stripS x).cps.toList).length ≤ 1000 := Nat.le_trans (escs_length _ _ _) (by have := p.l3; simp [Str.length] at this ⊢; omega)
  refine ⟨_, rfl, p.l2, Nat.le_trans hlen (by decide +kernel), fun i out H' => Ext H H' ∧ out = vS (((escs 0 false (stripS x).cps.toList).take i).map (·.2)), fun _ _ _ _ => trivial, ⟨hE1, rfl⟩, ?_, ?_⟩
  · rintro i out H' v H2 hi ⟨hE, rfl⟩ ⟨t, q, y, hit, rfl, ht, rfl⟩
    refine WA.tup (put_self _ _ _) ?_
    repeat walk_at "M"
    refine ⟨hE.putNew ht _, ?_⟩
    rw [List.take_add_one, hit]
    simp [vS]
  rintro out H2 D2 ⟨hE2, rfl⟩ hD2
  rw [List.take_length]
  have hE3 := hE2.putNew hD2 (.list (vS ((escs 0 false (stripS x).cps.toList).map (·.2))))
  repeat walk_at "M"
  refine WSs.assignC [] ["piece"] [none] ?_ (fun _ h => nomatch h) ?_ ?_
  · walk_at "CL"
  case refine_3 => walk_at "SW"
  refine WIt.list ?_
  repeat walk_at "M"
  refine ⟨_, _, rfl, put_self _ _ _, by simpa using Nat.le_trans hlen (by decide +kernel), fun i out H' => H' = put H2 D2 (.list (vS ((escs 0 false (stripS x).cps.toList).map (·.2)))) ∧ out = vN (((escs 0 false (stripS x).cps.toList).take i).map fun q => code q.2), fun _ _ _ h => by obtain ⟨rfl, _⟩ := h; exact put_self _ _ _, ⟨rfl, rfl⟩, ?_, ?_⟩
  · rintro i out H' v H3 hi ⟨rfl, rfl⟩ ⟨hit, rfl⟩
    simp only [vS, List.map_map, List.getElem?_map, Option.map_eq_some_iff] at hit
    obtain ⟨q, hq, rfl⟩ := hit
    repeat walk_at "M"
    refine ⟨T.mty, ?_⟩
    repeat walk_at "M"
    refine call_get T (fun z hz => ?_) fun hz => ?_
    · obtain ⟨t, rfl⟩ := (hf q.2).1 z hz
      refine ⟨_, .int _ _, rfl, ?_⟩
      rw [List.take_add_one, hq]
      simp [vN]
    · refine ⟨rfl, ?_⟩
      rw [List.take_add_one, hq]
      simp [vN, (hf q.2).2 hz]
  rintro out H4 D4 ⟨rfl, rfl⟩ hD4
  simp only [vS, List.length_map, List.take_length]
  repeat walk_at "M"
  refine WE.comp [] ["kind"] [none] ?_ (fun _ h => nomatch h) ?_
  · walk_at "CL"
  refine WIt.list ?_
  repeat walk_at "M"
  generalize hH5 : put (put H2 D2 _) D4 _ = H5
  have hE5 : Ext H H5 := by rw [← hH5]; exact hE3.putNew hD4 _
  have hl5 : H5 D4 = some (.list (vN ((escs 0 false (stripS x).cps.toList).map fun q => code q.2))) := by rw [← hH5, put_self]
  refine ⟨_, _, rfl, hl5, by simpa using Nat.le_trans hlen (by decide +kernel), fun i out H' => H' = H5 ∧ out = vN ((((escs 0 false (stripS x).cps.toList).map fun q => code q.2).take i).filter (· ≠ 0)), fun _ _ _ h => by obtain ⟨rfl, _⟩ := h; exact hl5, ⟨rfl, rfl⟩, ?_, ?_⟩
  · rintro i out H' v H3 hi ⟨rfl, rfl⟩ ⟨hit, rfl⟩
    rw [vN, List.getElem?_map, Option.map_eq_some_iff] at hit
    obtain ⟨q, hq, rfl⟩ := hit
    repeat walk_at "M"
    refine WT.plain ?_
    repeat walk_at "M"
    refine ⟨m.E.callee _, fun _ i => ?_⟩
    cases i
    refine eof_ok m.E e0 ?_
    repeat walk_at "M"
    refine ⟨fun hc => ?_, fun hc => ?_⟩
    · have : q ≠ 0 := by rintro rfl; simp at hc
      repeat walk_at "M"
      refine ⟨rfl, ?_⟩
      rw [List.take_add_one, hq, List.filter_append]
      simp [this, vN]
    · have : q = 0 := by simp at hc; omega
      refine ⟨rfl, ?_⟩
      rw [List.take_add_one, hq, List.filter_append]
      simp [this]
  rintro out H6 D6 ⟨rfl, rfl⟩ hD6
  repeat walk_at "M"
  simp only [vN, List.length_map]
  exact h _ D6 (hE5.putNew hD6 _) (hE5.new hD6) (by rw [put_self, List.take_of_length_le (by simp)]; rfl)
end
section
def chr (n : Nat) : Nat := if n = 7 then 40 else if n = 8 then 41 else if n = 9 then 91 else if n = 10 then 93 else if n = 25 then 123 else if n = 26 then 125 else if n = 20 then 60 else 62
abbrev sign (n : Nat) : Str := ⟨#[chr n]⟩
theorem rg10 : rgCount 0 10 1 = 10 := by decide +kernel
/-- what the numbers of the built-ins are -/
structure Blt (B : Base) : Prop where
  len : B.mg "len" = none
  len' : B.mb "len" = some (.builtin "len")
  sum : B.mg "sum" = none
  sum' : B.mb "sum" = some (.builtin "sum")
  max : B.mg "max" = none
  max' : B.mb "max" = some (.builtin "max")
  range : B.mg "range" = none
  range' : B.mb "range" = some (.type "range")
theorem open_chr {κ : Nat} (h : κ < 4) : (Str.ofString "([{<").cps[((κ : Nat) : Int).toNat]? = some (chr (base κ)) := by
  have : ∀ κ < 4, (Str.ofString "([{<").cps[((κ : Nat) : Int).toNat]? = some (chr (base κ)) := by decide +kernel
  exact this κ h
theorem close_chr {κ : Nat} (h : κ < 4) : (Str.ofString ")]}>").cps[((κ : Nat) : Int).toNat]? = some (chr (base κ + 1)) := by
  have : ∀ κ < 4, (Str.ofString ")]}>").cps[((κ : Nat) : Int).toNat]? = some (chr (base κ + 1)) := by decide +kernel
  exact this κ h
theorem DInv.start {fin : List Nat → Bool} (h : allOut fin 10 0 [] (List.replicate 10 0) = true) : DInv fin [] (List.replicate 10 0) [[], [], [], []] [] := by
  have hp : ∀ κ, κ < 4 → pile [[], [], [], []] κ = [] := by decide
  refine ⟨by simp, rfl, fun κ hκ => ?_, fun κ hκ t q hq => ?_, fun p n hn => by simp at hn, by simp, by simp, h⟩
  · rw [hp κ hκ]; rfl
  · rw [hp κ hκ] at hq; simp at hq
theorem DInv.some_pile {fin : List Nat → Bool} {ns other : List Nat} {piles : List (List Nat)} {opens : List Nat} (I : DInv fin ns other piles opens) (h : opens ≠ []) (κ : Nat) : ∃ d, d ≤ 3 ∧ pile piles ((κ + d) % 4) ≠ [] := by
  obtain ⟨x, hx⟩ := List.exists_mem_of_ne_nil _ h
  obtain ⟨l, hl, hm⟩ := List.mem_flatten.mp (I.perm.mem_iff.mp hx)
  obtain ⟨i, hi, rfl⟩ := List.mem_iff_getElem.mp hl
  rw [I.pl] at hi
  refine ⟨(i + 4 - κ % 4) % 4, by omega, ?_⟩
  have : (κ + (i + 4 - κ % 4) % 4) % 4 = i := by omega
  rw [this]
  unfold pile
  rw [List.getD_eq_getElem?_getD, List.getElem?_eq_getElem (by rw [I.pl]; exact hi)]
  intro e
  simp only [Option.getD_some] at e
  rw [e] at hm; cases hm
theorem drawn_ok {B : Base} {k a : Nat} (D : Def1 B 60 a .none .none) (b : Blt B) {H : Hp} {code : Nat} {fin : List Nat → Bool} {Φ : V → Hp → Prop} (hfin : allOut fin 10 0 [] (List.replicate 10 0) = true)
    (h : ∀ H' t r1 r2 ns other, Ext H H' → H' t = some (.tup [.ref r1, .ref r2]) → H' r1 = some (.list (vS (ns.map sign))) → H' r2 = some (.list (vN other)) → H r1 = none → H r2 = none → Tied ns other → fin other = true → Φ (.ref t) H') :
    WC B (k + 1) (.ref a) [.int code] H Φ := by
  obtain ⟨g1, g2, g3, g4, g5, g6, g7, g8⟩ := b
  refine WC.def0 D ?_ (names := ["code", "signs", "other", "piles", "place", "opened", "kind", "closing"]) (vs0 := [none, none, none, none, none, none, none, none]) (bs := [("code", .int code)]) (binding_plain (names := ["code"]) rfl ?_) (by decide +kernel) (by with_unfolding_all rfl) ?_
  · walk_at "LK"
  · walk_at "B1"
  repeat walk_at "M"
  refine ⟨by decide +kernel, fun r1 H1 n1 e1 f1 => ?_⟩
  repeat walk_at "M"
  refine ⟨by show 1 ≤ sizeLine; decide +kernel, fun r0 H2 n2 e2 f2 => ?_⟩
  repeat walk_at "M"
  refine list_mulN (n := 10) (.of f2) (by omega) fun r2 H3 n3 e3 f3 => ?_
  repeat walk_at "M"
  refine ⟨by decide +kernel, fun b0 H4 n4 e4 f4 => ?_⟩
  repeat walk_at "M"
  refine ⟨by decide +kernel, fun b1 H5 n5 e5 f5 => ?_⟩
  repeat walk_at "M"
  refine ⟨by decide +kernel, fun b2 H6 n6 e6 f6 => ?_⟩
  repeat walk_at "M"
  refine ⟨by decide +kernel, fun b3 H7 n7 e7 f7 => ?_⟩
  repeat walk_at "M"
  refine ⟨by show 4 ≤ sizeLine; decide +kernel, fun r3 H8 n8 e8 f8 => ?_⟩
  repeat walk_at "M"
  refine WSs.for (WIt.rangeN 0 10 1 ?_)
  repeat walk_at "M"
  intro r4 H9 n9 e9 f9
  refine ⟨r4, rfl, f9, by decide +kernel, by decide +kernel, ?_⟩
  -- what holds at the start
  have x38 : Ext H3 H8 := e4.trans (e5.trans (e6.trans (e7.trans e8)))
  have x03 : Ext H H3 := e1.trans (e2.trans e3)
  have R0 : Rows H H9 r3 [b0, b1, b2, b3] [[], [], [], []] := by
    have q0 : H8 b0 = some (.list []) := (e5.trans (e6.trans (e7.trans e8))) _ _ f4
    have q1 : H8 b1 = some (.list []) := (e6.trans (e7.trans e8)) _ _ f5
    have q2 : H8 b2 = some (.list []) := (e7.trans e8) _ _ f6
    have q3 : H8 b3 = some (.list []) := e8 _ _ f7
    refine Rows.ext ⟨f8, fun i a ha => ?_, ?_, ?_, fun a ha => ?_, rfl⟩ e9
    · match i with
      | 0 => cases ha; exact ⟨[], rfl, q0⟩
      | 1 => cases ha; exact ⟨[], rfl, q1⟩
      | 2 => cases ha; exact ⟨[], rfl, q2⟩
      | 3 => cases ha; exact ⟨[], rfl, q3⟩
    · have d01 : b0 ≠ b1 := ne_of f4 n5
      have d02 : b0 ≠ b2 := ne_of (e5 _ _ f4) n6
      have d03 : b0 ≠ b3 := ne_of ((e5.trans e6) _ _ f4) n7
      have d12 : b1 ≠ b2 := ne_of f5 n6
      have d13 : b1 ≠ b3 := ne_of (e6 _ _ f5) n7
      have d23 : b2 ≠ b3 := ne_of f6 n7
      simp [d01, d02, d03, d12, d13, d23]
    · have d0 : b0 ≠ r3 := ne_of ((e5.trans (e6.trans e7)) _ _ f4) n8
      have d1 : b1 ≠ r3 := ne_of ((e6.trans e7) _ _ f5) n8
      have d2 : b2 ≠ r3 := ne_of (e7 _ _ f6) n8
      have d3 : b3 ≠ r3 := ne_of f7 n8
      simp [Ne.symm d0, Ne.symm d1, Ne.symm d2, Ne.symm d3]
    · have : H3 a = none := by
        simp only [List.mem_cons, List.not_mem_nil, or_false] at ha
        rcases ha with rfl | rfl | rfl | rfl
        · exact n4
        · exact e4.new n5
        · exact (e4.trans e5).new n6
        · exact (e4.trans (e5.trans e6)).new n7
      exact x03.new this
  have s1 : H9 r1 = some (.list []) := (e2.trans (e3.trans (x38.trans e9))) _ _ f1
  have s2 : H9 r2 = some (.list (vN (List.replicate 10 0))) := by rw [(x38.trans e9) _ _ f3]; rfl
  have t12 : r1 ≠ r2 := ne_of ((e2 _ _ f1)) n3
  have t13 : r1 ≠ r3 := ne_of ((e2.trans (e3.trans (e4.trans (e5.trans (e6.trans e7))))) _ _ f1) n8
  have t23 : r2 ≠ r3 := ne_of ((e4.trans (e5.trans (e6.trans e7))) _ _ f3) n8
  have hr2 : H r2 = none := (e1.trans e2).new n3
  have tb : ∀ z, H3 z ≠ none → z ∉ [b0, b1, b2, b3] := fun z hz hm => hz (by
    simp only [List.mem_cons, List.not_mem_nil, or_false] at hm
    rcases hm with rfl | rfl | rfl | rfl
    · exact n4
    · exact e4.new n5
    · exact (e4.trans e5).new n6
    · exact (e4.trans (e5.trans e6)).new n7)
  have t1b : r1 ∉ [b0, b1, b2, b3] := tb r1 (by rw [(e2.trans e3) _ _ f1]; exact fun h => nomatch h)
  have t2b : r2 ∉ [b0, b1, b2, b3] := tb r2 (by rw [f3]; exact fun h => nomatch h)
  have hr3 : H r3 = none := (x03.trans (e4.trans (e5.trans (e6.trans e7)))).new n8
  have x09 : Ext H H9 := x03.trans (x38.trans e9)
  generalize hbs : [b0, b1, b2, b3] = bs at R0 t1b t2b
  clear hbs tb x38 x03 e1 e2 e3 e4 e5 e6 e7 e8 e9 f1 f2 f3 f4 f5 f6 f7 f8 f9 n2 n3 n4 n5 n6 n7 n8 n9
  refine ⟨fun i vars H' => Ext H H' ∧ ∃ (c : Nat) (ns other : List Nat) (piles : List (List Nat)) (opens : List Nat) (o1 o2 o3 o4 : Option V), DInv fin ns other piles opens ∧ ns.length = i ∧ H' r1 = some (.list (vS (ns.map sign))) ∧ H' r2 = some (.list (vN other)) ∧ Rows H H' r3 bs piles ∧
    vars = [some (.int c), some (.ref r1), some (.ref r2), some (.ref r3), o1, o2, o3, o4], ?_, ?_, ?_, ?_⟩
  · exact ⟨x09, code, [], List.replicate 10 0, [[], [], [], []], [], none, none, none, none, DInv.start hfin, rfl, s1, s2, R0, rfl⟩
  · exact fun _ _ _ _ => trivial
  · rintro i vars H' v H1 hi ⟨xE, c, ns, other, piles, opens, o1, o2, o3, o4, I, rfl, S1, S2, R, rfl⟩ ⟨rfl, rfl⟩
    rw [rg10] at hi
    simp only [Int.zero_add, Int.mul_one]
    have hpl := I.pl
    have hlens : ∀ κ, (pile piles κ).length ≤ 10 := fun κ => by
      by_cases h : κ < 4
      · have h1 : (pile piles κ).length ≤ (piles.map List.length).sum := by
          refine mem_le_sum (List.mem_map.mpr ⟨pile piles κ, ?_, rfl⟩)
          unfold pile
          rw [List.getD_eq_getElem?_getD, List.getElem?_eq_getElem (by omega)]
          exact List.getElem_mem _
        rw [I.opened] at h1
        have := I.par.2; omega
      · unfold pile; rw [List.getD_eq_getElem?_getD, List.getElem?_eq_none (by omega)]; exact Nat.zero_le _
    repeat walk_at "M"
    refine WE.comp [] ["pile"] [none] ?_ (fun _ h => nomatch h) ?_
    · walk_at "CL"
    refine WIt.list ?_
    repeat walk_at "M"
    refine ⟨_, _, rfl, R.top, CompOk.new (fun i out H' => H' = H1 ∧ out = vN ((piles.take i).map List.length)) ?_ ⟨rfl, rfl⟩ (fun _ _ _ h => by obtain ⟨rfl, _⟩ := h; exact R.top) ?_ ?_⟩
    · rw [List.length_map, R.len, hpl]; decide +kernel
    · rintro i out H' v H3 hi' ⟨rfl, rfl⟩ ⟨hit, rfl⟩
      rw [List.length_map] at hi'
      rw [List.getElem?_map, Option.map_eq_some_iff] at hit
      obtain ⟨a', ha', rfl⟩ := hit
      have hi4 : i < piles.length := by rw [← R.len]; exact hi'
      obtain ⟨a'', h1, h2⟩ := R.get hi4
      rw [ha'] at h1; cases h1
      repeat walk_at "M"
      refine len_nat h2 (Nat.le_trans (hlens i) (by decide)) ⟨rfl, ?_⟩
      rw [List.take_add_one, List.getElem?_eq_getElem hi4]
      have : pile piles i = piles[i] := by unfold pile; rw [List.getD_eq_getElem?_getD, List.getElem?_eq_getElem hi4]; rfl
      rw [this]
      simp only [vN, Option.toList, List.map_append, List.map_cons, List.map_nil]
    rintro out H3 D3 H4 ⟨rfl, rfl⟩ n4 e4 f4
    rw [List.length_map, R.len, List.take_length] at f4
    have R4 := R.ext e4
    have S14 := e4 _ _ S1
    have S24 := e4 _ _ S2
    have xE4 := xE.trans e4
    repeat walk_at "M"
    refine call_sumN f4 ?_
    rw [I.opened]
    repeat walk_at "M"
    refine bin_modn (j := 4) (by omega) ?_
    repeat walk_at "M"
    refine bin_divn (j := 4) (by omega) (by omega) ?_
    repeat walk_at "M"
    refine bin_modn (j := 2) (by omega) ?_
    repeat walk_at "M"
    refine bin_divn (j := 8) (by omega) (by omega) ?_
    repeat walk_at "M"
    refine WT.mono (Φ := fun b H' => H' = H4 ∧ (b = true → opens.length < 10 - ns.length) ∧ (b = false → opens ≠ [])) ?_ ?_
    · refine WT.or ?_
      repeat walk_at "M"
      refine ⟨fun hc => ?_, fun hc => ?_⟩
      · refine ⟨rfl, fun _ => ?_, fun h => nomatch h⟩
        have : opens.length = 0 := by simpa using hc
        omega
      · have hne : opens ≠ [] := by rintro rfl; simp at hc
        refine WT.and ?_
        repeat walk_at "M"
        refine ⟨fun hc => ?_, fun hc => ?_⟩
        · exact ⟨rfl, (fun h => nomatch h), fun _ => hne⟩
        · repeat walk_at "M"
          refine ⟨rfl, fun hc => ?_, fun _ => hne⟩
          have : (opens.length : Int) < 10 - (ns.length : Int) := by simpa using hc
          omega
    rintro b H' ⟨rfl, hb1, hb2⟩
    refine ⟨fun hc => ?_, fun hc => ?_⟩
    · have hlt := hb1 hc
      have hκ : c % 4 < 4 := Nat.mod_lt _ (by decide)
      obtain ⟨aκ, ha1, ha2⟩ := R4.get (κ := c % 4) (by rw [hpl]; exact hκ)
      have hrow : Lst H' r3 (bs.map V.ref) := .of R4.top
      repeat walk_at "M"
      refine item_list (.of R4.top) (by omega) (by omega) (R4.at ha1) ?_
      refine ⟨mty_list ha2, ?_⟩
      repeat walk_at "M"
      refine append_nat ha2 (Nat.le_trans (hlens _) (by decide)) ⟨rfl, ?_⟩
      have R5 := R4.set ha1 (pile piles (c % 4) ++ [ns.length])
      have hm : aκ ∈ bs := List.mem_of_getElem? ha1
      have d1 : r1 ≠ aκ := by rintro rfl; exact t1b hm
      have d2 : r2 ≠ aκ := by rintro rfl; exact t2b hm
      have S15 : put H' aκ (.list (vN (pile piles (c % 4) ++ [ns.length]))) r1 = some (.list (vS (ns.map sign))) := by rw [put_ne _ _ d1]; exact S14
      have S25 : put H' aκ (.list (vN (pile piles (c % 4) ++ [ns.length]))) r2 = some (.list (vN other)) := by rw [put_ne _ _ d2]; exact S24
      have xE5 : Ext H (put H' aκ (.list (vN (pile piles (c % 4) ++ [ns.length])))) := xE4.put _ (R.new _ hm)
      generalize put H' aκ (.list (vN (pile piles (c % 4) ++ [ns.length]))) = H5 at R5 S15 S25 xE5
      repeat walk_at "M"
      refine ⟨mty_list S15, ?_⟩
      repeat walk_at "M"
      refine item_str (by omega) (by omega) (open_chr hκ) ?_
      repeat walk_at "M"
      refine call_append S15 (by simp; show ns.length ≤ 1 <<< 24; omega) ⟨rfl, ?_⟩
      repeat walk_at "M"
      refine ⟨xE5.put _ n1, _, ns ++ [base (c % 4)], other, _, opens ++ [ns.length], _, _, _, _, I.push hκ hlt, by simp, by rw [put_self]; simp [vS], by rw [put_ne _ _ (Ne.symm t12)]; exact S25, R5.ne t1b t13 _, rfl⟩
    · have hne := hb2 hc
      refine WSs.while (fun m vars H5 => ∃ κ d, d ≤ m ∧ κ < 4 ∧ pile piles ((κ + d) % 4) ≠ [] ∧ Ext H' H5 ∧ vars = [some (.int (c / 8 : Nat)), some (.ref r1), some (.ref r2), some (.ref r3), some (.int ns.length), some (.int (opens.length : Nat)), some (.int κ), some (.int (c / 4 % 2 : Nat))]) 3 ?_ ?_
      · obtain ⟨d, h1, h2⟩ := I.some_pile hne (c % 4)
        exact ⟨c % 4, d, h1, Nat.mod_lt _ (by decide), h2, Ext.refl _, rfl⟩
      rintro m vars H5 ⟨κ, d, hd, hκ, hpd, x5, rfl⟩
      have R5 := R4.ext x5
      have S15 := x5 _ _ S14
      have S25 := x5 _ _ S24
      have xE5 := xE4.trans x5
      obtain ⟨aκ, ha1, ha2⟩ := R5.get (κ := κ) (by rw [hpl]; exact hκ)
      repeat walk_at "M"
      refine item_list (.of R5.top) (by omega) (by omega) (R5.at ha1) ?_
      repeat walk_at "M"
      refine ⟨by decide +kernel, fun z H6 n6 e6 f6 => ?_⟩
      refine eq_nats (e6 _ _ ha2) (ms := []) f6 ?_
      repeat walk_at "M"
      refine ⟨fun hc => ?_, fun hc => ?_⟩
      · have he : pile piles κ = [] := by simpa using hc
        have hd0 : d ≠ 0 := by rintro rfl; rw [Nat.add_zero, Nat.mod_eq_of_lt hκ] at hpd; exact hpd he
        repeat walk_at "M"
        refine bin_modn (i := κ + 1) (j := 4) (by omega) ?_
        repeat walk_at "M"
        exact ⟨m - 1, by omega, (κ + 1) % 4, d - 1, by omega, Nat.mod_lt _ (by decide), by rw [show ((κ + 1) % 4 + (d - 1)) % 4 = (κ + d) % 4 by omega]; exact hpd, x5.trans e6, rfl⟩
      · have he : pile piles κ ≠ [] := by simpa using hc
        obtain ⟨init, q, hq⟩ : ∃ init q, pile piles κ = init ++ [q] := ⟨_, _, (List.dropLast_concat_getLast he).symm⟩
        have R6 := R5.ext e6
        have S16 := e6 _ _ S15
        have S26 := e6 _ _ S25
        have xE6 := xE5.trans e6
        have ha6 := e6 _ _ ha2
        rw [hq] at ha6
        have hil : init.length ≤ 1000 := by have := hlens κ; rw [hq] at this; simp at this; omega
        have hqn : q < ns.length := by
          have := (I.pi κ hκ init.length q (by rw [hq]; simp)).2.1
          exact (List.getElem?_eq_some_iff.mp this).1
        have hol := I.ol
        repeat walk_at "M"
        refine item_list (.of R6.top) (by omega) (by omega) (R6.at ha1) ?_
        refine ⟨mty_list ha6, ?_⟩
        repeat walk_at "M"
        refine pop_nat ha6 hil ?_
        have R7 := R6.set ha1 init
        have hm : aκ ∈ bs := List.mem_of_getElem? ha1
        have d1 : r1 ≠ aκ := by rintro rfl; exact t1b hm
        have d2 : r2 ≠ aκ := by rintro rfl; exact t2b hm
        have S17 : put H6 aκ (.list (vN init)) r1 = some (.list (vS (ns.map sign))) := by rw [put_ne _ _ d1]; exact S16
        have S27 : put H6 aκ (.list (vN init)) r2 = some (.list (vN other)) := by rw [put_ne _ _ d2]; exact S26
        have xE7 : Ext H (put H6 aκ (.list (vN init))) := xE6.put _ (R.new _ hm)
        generalize put H6 aκ (.list (vN init)) = H7 at R7 S17 S27 xE7
        repeat walk_at "M"
        refine set_nat S27 (by omega) (by omega) ?_
        have R8 := R7.ne t2b t23 (.list (vN (other.set ns.length q)))
        have S18 : put H7 r2 (.list (vN (other.set ns.length q))) r1 = some (.list (vS (ns.map sign))) := by rw [put_ne _ _ t12]; exact S17
        have S28 : put H7 r2 (.list (vN (other.set ns.length q))) r2 = some (.list (vN (other.set ns.length q))) := put_self _ _ _
        have xE8 : Ext H (put H7 r2 (.list (vN (other.set ns.length q)))) := xE7.put _ hr2
        generalize put H7 r2 (.list (vN (other.set ns.length q))) = H8 at R8 S18 S28 xE8
        repeat walk_at "M"
        refine item_nat S28 (n := q) (by rw [List.getElem?_set_self (by omega)]) (by simp; omega) ?_
        refine set_nat S28 (by simp; omega) (by simp; omega) ?_
        have R9 := R8.ne t2b t23 (.list (vN ((other.set ns.length q).set q ns.length)))
        have S19 : put H8 r2 (.list (vN ((other.set ns.length q).set q ns.length))) r1 = some (.list (vS (ns.map sign))) := by rw [put_ne _ _ t12]; exact S18
        have S29 : put H8 r2 (.list (vN ((other.set ns.length q).set q ns.length))) r2 = some (.list (vN ((other.set ns.length q).set q ns.length))) := put_self _ _ _
        have xE9 : Ext H (put H8 r2 (.list (vN ((other.set ns.length q).set q ns.length)))) := xE8.put _ hr2
        generalize put H8 r2 (.list (vN ((other.set ns.length q).set q ns.length))) = H10 at R9 S19 S29 xE9
        repeat walk_at "M"
        refine ⟨mty_list S19, ?_⟩
        repeat walk_at "M"
        refine item_str (by omega) (by omega) (close_chr hκ) ?_
        repeat walk_at "M"
        refine call_append S19 (by simp; show ns.length ≤ 1 <<< 24; omega) ⟨rfl, ?_⟩
        repeat walk_at "M"
        refine ⟨xE9.put _ n1, _, ns ++ [base κ + 1], _, _, opens.erase q, _, _, _, _, I.pop hκ hq, by simp, by rw [put_self]; simp [vS], by rw [put_ne _ _ (Ne.symm t12)]; exact S29, R9.ne t1b t13 _, rfl⟩
  · rintro vars H' ⟨xE, c, ns, other, piles, opens, o1, o2, o3, o4, I, hi, S1, S2, R, rfl⟩
    rw [rg10] at hi
    obtain ⟨hT, hf⟩ := I.end hi
    repeat walk_at "M"
    refine ⟨by show 2 ≤ sizeLine; decide +kernel, fun t H2 n2 e2 f2 => ?_⟩
    repeat walk_at "M"
    exact h _ _ _ _ _ _ (xE.trans e2) f2 (e2 _ _ S1) (e2 _ _ S2) n1 hr2 hT hf
end
section
/-! texts of plain signs -/
theorem str_cps (x : Str) : (⟨x.cps.toList.toArray⟩ : Str) = x := by cases x; simp
theorem join_cps : ∀ ys : List Str, (Txt.join "" ys).cps.toList = (ys.map (·.cps.toList)).flatten := by
  intro ys
  show (Builtin.Str.glued "" ys).cps.toList = _
  unfold Builtin.Str.glued
  have key : ∀ (l : List Str) (acc : Array Nat), (l.foldl (fun acc p => acc ++ (Str.ofString "").cps ++ p.cps) acc).toList = acc.toList ++ (l.map (·.cps.toList)).flatten := by
    intro l
    induction l with
    | nil => intro acc; simp
    | cons a r ih =>
      intro acc
      rw [List.foldl_cons, ih]
      have : (Str.ofString "").cps = #[] := by decide +kernel
      rw [this]
      simp
  cases ys with
  | nil => decide +kernel
  | cons a r => exact (key r a.cps).trans (by simp)
theorem left_plain : ∀ l : List Nat, 92 ∉ l → left false l = false
  | [], _ => by unfold left; rfl
  | c :: r, h => by
    have h1 : ¬ c = 92 := fun e => h (by simp [e])
    have h2 := left_plain r fun e => h (List.mem_cons_of_mem _ e)
    unfold left
    rw [show decide (c = 92) = false by simp [h1]] 
    exact h2
theorem escs_plain : ∀ (l : List Nat) (i : Nat), 92 ∉ l → escs i false l = (l.zipIdx i).map fun q => ((q.2 : Int), (⟨#[q.1]⟩ : Str))
  | [], _, _ => by unfold escs; rfl
  | c :: r, i, h => by
    have h1 : ¬ c = 92 := fun e => h (by simp [e])
    have h2 := escs_plain r (i + 1) fun e => h (List.mem_cons_of_mem _ e)
    unfold escs
    rw [if_neg h1, h2, List.zipIdx_cons]
    rfl
theorem strip_plain {x : Str} (h : 34 ∉ x.cps.toList) : stripS x = x := by unfold stripS; rw [if_neg h]
theorem Plain.of {x : Str} (h1 : x.length ≤ 500) (h2 : 34 ∉ x.cps.toList) (h3 : 92 ∉ x.cps.toList) : Plain x := by
  have e := strip_plain h2
  exact ⟨h1, left_plain _ h3, by rw [e]; exact left_plain _ h3, by rw [e]; exact h1⟩
/-- the check of a row of brackets of a kind -/
def chkN (κ : Nat) : List Nat → Int → Bool
  | [], o => decide (o = 0)
  | n :: r, o => if n = base κ then chkN κ r (o + 1) else if n = base κ + 1 then (if o - 1 < 0 then false else chkN κ r (o - 1)) else chkN κ r o
def rs (κ n : Nat) : Str := if n = base κ then "(" else if n = base κ + 1 then ")" else ""
def rc (κ n : Nat) : List Nat := if n = base κ then [40] else if n = base κ + 1 then [41] else []
theorem rs_cps (κ n : Nat) : (rs κ n).cps.toList = rc κ n := by
  unfold rs rc
  split
  · decide +kernel
  · split <;> decide +kernel
theorem one_str {a b : Nat} : ((⟨#[a]⟩ : Str) = ⟨#[b]⟩) ↔ a = b := by
  constructor
  · intro h; injection h with h; simpa using h
  · rintro rfl; rfl
theorem chk_row (κ : Nat) : ∀ (l : List Nat) (i : Nat) (o : Int), chk (((l.map (rc κ)).flatten.zipIdx i).map fun q => ((q.2 : Int), (⟨#[q.1]⟩ : Str))) o = chkN κ l o
  | [], i, o => rfl
  | n :: r, i, o => by
    have e40 : Str.ofString "(" = ⟨#[40]⟩ := by decide +kernel
    have e41 : Str.ofString ")" = ⟨#[41]⟩ := by decide +kernel
    rw [List.map_cons, List.flatten_cons, chkN]
    by_cases h1 : n = base κ
    · have : rc κ n = [40] := by unfold rc; rw [if_pos h1]
      rw [this, if_pos h1, List.singleton_append, List.zipIdx_cons, List.map_cons, chk, e40, if_pos rfl]
      exact chk_row κ r _ _
    · rw [if_neg h1]
      by_cases h2 : n = base κ + 1
      · have : rc κ n = [41] := by unfold rc; rw [if_neg h1, if_pos h2]
        rw [this, if_pos h2, List.singleton_append, List.zipIdx_cons, List.map_cons, chk, e40, e41, if_neg (by rw [one_str]; show ¬ (41 = 40); decide), if_pos rfl]
        rw [chk_row κ r]
      · have : rc κ n = [] := by unfold rc; rw [if_neg h1, if_neg h2]
        rw [this, if_neg h2, List.nil_append]
        exact chk_row κ r _ _
theorem row_signs (κ : Nat) (l : List Nat) (c : Nat) (h : c ∈ (l.map (rc κ)).flatten) : c = 40 ∨ c = 41 := by
  obtain ⟨q, hq, hc⟩ := List.mem_flatten.mp h
  obtain ⟨n, _, rfl⟩ := List.mem_map.mp hq
  unfold rc at hc
  split at hc
  · exact .inl (by simpa using hc)
  · split at hc
    · exact .inr (by simpa using hc)
    · cases hc
theorem row_text (κ : Nat) (l : List Nat) : (Txt.join "" (l.map (rs κ))).cps.toList = (l.map (rc κ)).flatten := by
  rw [join_cps, List.map_map]
  congr 1
  refine List.map_congr_left fun n _ => rs_cps κ n
theorem row_length (κ : Nat) : ∀ l : List Nat, (l.map (rc κ)).flatten.length ≤ l.length
  | [] => Nat.le_refl _
  | n :: r => by
    have := row_length κ r
    have h : (rc κ n).length ≤ 1 := by unfold rc; split; exact Nat.le_refl _; split; exact Nat.le_refl _; exact Nat.zero_le _
    rw [List.map_cons, List.flatten_cons, List.length_append, List.length_cons]; omega
theorem row_plain (κ : Nat) (l : List Nat) (hl : l.length ≤ 500) : Plain (Txt.join "" (l.map (rs κ))) := by
  refine Plain.of ?_ (fun h => ?_) fun h => ?_
  · have := row_length κ l
    have e : (Txt.join "" (l.map (rs κ))).length = (Txt.join "" (l.map (rs κ))).cps.toList.length := by simp [Str.length]
    rw [e, row_text]; omega
  · rw [row_text] at h; rcases row_signs κ l _ h with h | h <;> omega
  · rw [row_text] at h; rcases row_signs κ l _ h with h | h <;> omega
theorem row_chk (κ : Nat) (l : List Nat) : chkS (Txt.join "" (l.map (rs κ))) = chkN κ l 0 := by
  unfold chkS
  rw [strip_plain (fun h => by rw [row_text] at h; rcases row_signs κ l _ h with h | h <;> omega), row_text, escs_plain _ _ (fun h => by rcases row_signs κ l _ h with h | h <;> omega)]
  exact chk_row κ l 0 0
theorem row_join (κ : Nat) (l : List Nat) (hl : l.length ≤ 500) : JoinOk "" (l.map (rs κ)) = true := by
  refine joinOk_of_weight ?_ (by decide +kernel)
  have h1 := sum_le_mul (l := (l.map (rs κ)).map (·.length)) (m := 1) fun n hn => by
    rw [List.map_map] at hn
    obtain ⟨q, _, rfl⟩ := List.mem_map.mp hn
    show (rs κ q).length ≤ 1
    have : (rs κ q).length = (rc κ q).length := by rw [← rs_cps]; simp [Str.length]
    rw [this]; unfold rc; split; exact Nat.le_refl _; split; exact Nat.le_refl _; exact Nat.zero_le _
  rw [List.length_map, List.length_map] at h1
  rw [List.length_map]; omega
theorem chkN_pos (κ : Nat) : ∀ (l : List Nat) (o : Int), (∀ j, j ≤ l.length → 0 ≤ o + ((l.take j).map (wt κ)).sum) → chkN κ l o = decide (o + (l.map (wt κ)).sum = 0)
  | [], o, _ => by rw [chkN]; simp
  | n :: r, o, h => by
    have h' : ∀ j, j ≤ r.length → 0 ≤ (o + wt κ n) + ((r.take j).map (wt κ)).sum := fun j hj => by
      have := h (j + 1) (by simpa using hj)
      rw [List.take_succ_cons, List.map_cons, List.sum_cons] at this
      omega
    have ih := chkN_pos κ r (o + wt κ n) h'
    rw [List.map_cons, List.sum_cons, show o + (wt κ n + (r.map (wt κ)).sum) = o + wt κ n + (r.map (wt κ)).sum by omega, ← ih, chkN]
    have h1 := h' 0 (Nat.zero_le _)
    simp only [List.take_zero, List.map_nil, List.sum_nil, Int.add_zero] at h1
    by_cases e1 : n = base κ
    · rw [if_pos e1]; subst e1; rw [wt_open]
    · rw [if_neg e1]
      by_cases e2 : n = base κ + 1
      · rw [if_pos e2]; subst e2
        rw [wt_close] at h1 ⊢
        rw [if_neg (by omega)]; rfl
      · rw [if_neg e2]
        have : wt κ n = 0 := by unfold wt; rw [if_neg e1, if_neg e2]
        rw [this, Int.add_zero]
theorem Wt_add (κ : Nat) (ns : List Nat) (p j : Nat) : Wt κ ns (p + j) = Wt κ ns p + (((ns.drop p).take j).map (wt κ)).sum := by
  unfold Wt
  rw [List.take_add, List.map_append, List.sum_append]
theorem chk_slice {κ p e : Nat} {ns : List Nat} (he : e < ns.length) (hp : p ≤ e) (h : ∀ j, p < j → j ≤ e + 1 → Wt κ ns p ≤ Wt κ ns j) : chkN κ ((ns.drop p).take (e + 1 - p)) 0 = decide (Wt κ ns (e + 1) = Wt κ ns p) := by
  rw [chkN_pos]
  · rw [decide_eq_decide]
    have := Wt_add κ ns p (e + 1 - p)
    rw [show p + (e + 1 - p) = e + 1 by omega] at this
    omega
  · intro j hj
    rw [List.length_take, List.length_drop] at hj
    rw [List.take_take, show min j (e + 1 - p) = j by omega]
    have := Wt_add κ ns p j
    by_cases h0 : j = 0
    · subst h0; simp
    · have := h (p + j) (by omega) (by omega)
      omega
end
section
theorem putCells_other : ∀ (cs : List Addr) (H : Hp) (a : Addr), a ∉ cs → putCells H cs a = H a
  | [], _, _, _ => rfl
  | c :: cs, H, a, h => by
    show putCells (put H c (.cell none)) cs a = H a
    rw [putCells_other cs _ a (fun m => h (List.mem_cons_of_mem _ m)), put_ne _ _ (by rintro rfl; exact h List.mem_cons_self)]
theorem putCells_at : ∀ (cs : List Addr) (H : Hp), cs.Nodup → ∀ c ∈ cs, putCells H cs c = some (.cell none)
  | c :: cs, H, nd, a, h => by
    rw [List.nodup_cons] at nd
    show putCells (put H c (.cell none)) cs a = _
    rcases List.mem_cons.mp h with rfl | h
    · rw [putCells_other cs _ _ nd.1, put_self]
    · exact putCells_at cs _ nd.2 a h
theorem putCells_ext (cs : List Addr) (H : Hp) (h : ∀ c ∈ cs, H c = none) : Ext H (putCells H cs) := fun a o e => by
  rw [putCells_other cs H a (fun m => by rw [h a m] at e; cases e)]; exact e
/-- a call of a def with cells of its own -/
theorem WC.defC {B : Base} {k : Nat} {H : Hp} {a : Addr} {st : Stmt} {dv kdv : Value} {names xs : List Str} {vs0 : List (Option V)} {args : List V} {bs : List (Str × V)} {Φ : V → Hp → Prop} {s1 : Stmt} {body : List Stmt}
    (D : DefAt B a (sArgs st) (sBody st) (sScope st) dv kdv) (L : Looks (sScope st) names vs0) (hb : Binding B (sArgs st) dv kdv [] args bs) (hc : celNames (sScope st).names = xs) (hbd : sBody st = s1 :: body)
    (h : ∀ (cs : List Addr) H', cs.length = xs.length → cs.Nodup → (∀ c ∈ cs, H c = none) → Ext H H' → (∀ c ∈ cs, H' c = some (.cell none)) →
      WBs B k ⟨sScope st, names, xs.zip cs⟩ bs vs0 H' fun vars H1 => WSs B k ⟨sScope st, names, xs.zip cs⟩ (s1 :: body) vars H1 (retV Φ)) : WC B (k + 1) (.ref a) args H Φ := by
  refine WC.def D L hb fun cs h1 h2 h3 h6 => ?_
  rw [hc, List.append_nil, hbd]
  exact h cs _ (by rw [h1, hc]) h2 h3 (putCells_ext cs H h3) (putCells_at cs H h2)
def kinds : List Nat := [0, 1, 3, 2]
/-- what is found at each place once some kinds are done -/
def Found (ns other mine : List Nat) (done : Nat → Nat → Prop) : Prop := mine.length = 10 ∧ ∀ p e κ, κ < 4 → ns[p]? = some (base κ) → other[p]? = some e → done κ p → mine[p]? = some e ∧ mine[e]? = some p
theorem Tied.mate {ns other : List Nat} (T : Tied ns other) {p κ : Nat} (hκ : κ < 4) (h : ns[p]? = some (base κ)) : ∃ e, e < 10 ∧ p < e ∧ other[p]? = some e ∧ other[e]? = some p ∧ ns[e]? = some (base κ + 1) ∧ Mate κ ns p e := by
  obtain ⟨l, hl, g⟩ := T.num p _ h
  rcases g with ⟨e, g⟩ | ⟨e, _⟩
  · have : l = κ := by
      by_cases q : l = κ
      · exact q
      · exact absurd e (base_ne hκ hl (Ne.symm q))
    subst this; exact g
  · exact absurd e (base_odd hκ hl)
theorem Found.all {ns other mine : List Nat} (T : Tied ns other) (F : Found ns other mine fun _ _ => True) : mine = other := by
  refine List.ext_getElem? fun p => ?_
  by_cases hp : p < 10
  · have hn : ns[p]? = some (ns[p]'(by rw [T.nl]; exact hp)) := List.getElem?_eq_getElem _
    obtain ⟨κ, hκ, g⟩ := T.num p _ hn
    rcases g with ⟨e, e', _, _, h1, _⟩ | ⟨_, q, _, h1, h2, h3⟩
    · rw [e] at hn
      rw [(F.2 p e' κ hκ hn h1 trivial).1, h1]
    · rw [(F.2 q p κ hκ h1 h3 trivial).2, h2]
  · rw [List.getElem?_eq_none (by rw [F.1]; omega), List.getElem?_eq_none (by rw [T.ol]; omega)]
theorem Found.mono {ns other mine : List Nat} {d d' : Nat → Nat → Prop} (F : Found ns other mine d) (h : ∀ κ p, κ < 4 → ns[p]? = some (base κ) → d' κ p → d κ p) : Found ns other mine d' :=
  ⟨F.1, fun p e κ h1 h2 h3 h4 => F.2 p e κ h1 h2 h3 (h κ p h1 h2 h4)⟩
theorem Found.set {ns other mine : List Nat} {d : Nat → Nat → Prop} (T : Tied ns other) (F : Found ns other mine d) {p e κ : Nat} (hκ : κ < 4) (h1 : ns[p]? = some (base κ)) (h2 : other[p]? = some e) : Found ns other ((mine.set p e).set e p) fun l q => d l q ∨ q = p := by
  obtain ⟨e', he10, hpe, g1, g2, _, _⟩ := T.mate hκ h1
  rw [h2] at g1; cases g1
  have hl := F.1
  refine ⟨by simp [hl], fun q f l hl' k1 k2 k3 => ?_⟩
  by_cases hq : q = p
  · subst hq
    rw [h2] at k2; cases k2
    refine ⟨?_, ?_⟩
    · rw [List.getElem?_set_ne (by omega), List.getElem?_set_self (by omega)]
    · rw [List.getElem?_set_self (by rw [List.length_set]; omega)]
  · have k3' := k3.resolve_right hq
    obtain ⟨e'', _, hqe, j1, j2, j3, _⟩ := T.mate hl' k1
    rw [k2] at j1; cases j1
    obtain ⟨a, b⟩ := F.2 q f l hl' k1 k2 k3'
    have n1 : q ≠ e := by rintro rfl; rw [k2] at g2; cases g2; omega
    have n2 : f ≠ p := by rintro rfl; rw [h2] at j2; cases j2; omega
    have n3 : f ≠ e := by rintro rfl; rw [g2] at j2; cases j2; exact hq rfl
    refine ⟨?_, ?_⟩
    · rw [List.getElem?_set_ne (Ne.symm n1), List.getElem?_set_ne (Ne.symm hq)]; exact a
    · rw [List.getElem?_set_ne (Ne.symm n3), List.getElem?_set_ne (Ne.symm n2)]; exact b
theorem ties_ok {B : Base} {k a ac a0 a1 ae : Nat} {code : Str → Nat} (D : Def1 B 62 a .none .none) (b : Blt B) (m : Read B a0 a1 ae code) (Dc : Def1 B 6 ac .none .none) (mc : B.mg "_check_parenthesis" = some (.ref ac)) {H : Hp} {l : Addr} {ns other : List Nat} {Φ : V → Hp → Prop} (hl : H l = some (.list (vN ns))) (T : Tied ns other)
    (h : ∀ H' r, Ext H H' → H r = none → H' r = some (.list (vN other)) → Φ (.ref r) H') : WC B (k + 5) (.ref a) [.ref l] H Φ := by
  have g1 := b.range
  have g2 := b.range'
  have e1 := m.e1
  obtain ⟨t0, e0⟩ := m.e0
  have hnl := T.nl
  have hml := m.mail
  refine WC.defC D ?_ (names := ["numbers", "other", "row", "place", "end"]) (vs0 := [none, none, none, none, none]) (bs := [("numbers", .ref l)]) (binding_plain (names := ["numbers"]) rfl ?_) (xs := ["kind"]) (by decide +kernel) (by with_unfolding_all rfl) ?_
  · walk_at "LK"
  · walk_at "B1"
  intro cs H0 hcl _ hcn x0 hcc
  obtain ⟨c, rfl⟩ := List.length_eq_one_iff.mp hcl
  have nc : H c = none := hcn c List.mem_cons_self
  have fc := hcc c List.mem_cons_self
  clear hcl hcn hcc
  simp only [List.zip_cons_cons, List.zip_nil_right]
  repeat walk_at "M"
  refine ⟨by show 1 ≤ sizeLine; decide +kernel, fun r0 H1 n1 e1' f1 => ?_⟩
  repeat walk_at "M"
  refine list_mulN (n := 10) (.of f1) (by omega) fun r H2 n2 e2 f2 => ?_
  repeat walk_at "M"
  have x2 : Ext H H2 := x0.trans (e1'.trans e2)
  have fc2 := (e1'.trans e2) _ _ fc
  have nr : H r = none := (x0.trans e1').new n2
  have hcr : c ≠ r := ne_of (e1' _ _ fc) n2
  refine WSs.for (WIt.list ?_)
  repeat walk_at "M"
  refine ⟨by show 4 ≤ sizeLine; decide +kernel, fun q H3 n3 e3 f3 => ?_⟩
  have x3 := x2.trans e3
  have fc3 := e3 _ _ fc2
  have fr3 := e3 _ _ f2
  have hql : q ≠ c := Ne.symm (ne_of fc2 n3)
  have hqr : q ≠ r := Ne.symm (ne_of f2 n3)
  have hq0 : H q = none := x2.new n3
  have f3' : H3 q = some (.list (vN (kinds.map base))) := f3
  clear f3
  refine ⟨q, _, rfl, f3', fun i vars H' => Ext H H' ∧ ∃ (w : Option V) (mine : List Nat) (o1 o2 o3 : Option V), H' c = some (.cell w) ∧ H' r = some (.list (vN mine)) ∧ H' q = some (.list (vN (kinds.map base))) ∧ (Found ns other mine fun κ _ => κ ∈ kinds.take i) ∧ vars = [some (.ref l), some (.ref r), o1, o2, o3], ?_, ?_, ?_, ?_⟩
  · refine ⟨x3, none, List.replicate 10 0, none, none, none, fc3, by rw [fr3]; rfl, f3', ⟨by simp, fun p e κ _ _ _ hd => ?_⟩, rfl⟩
    simp at hd
  · rintro i v H' ⟨_, _, _, _, _, _, _, _, h, _⟩; exact h
  · rintro i vars H' v H4 hi ⟨xE, w, mine, o1, o2, o3, C, S, Q, Fd, rfl⟩ ⟨hit, rfl⟩
    have hi4 : i < 4 := by simpa [kinds] using hi
    obtain ⟨κ, hκi, hκ⟩ : ∃ κ, kinds[i]? = some κ ∧ κ < 4 := by
      have : ∀ i < 4, ∃ κ, kinds[i]? = some κ ∧ κ < 4 := by
        intro i hi
        match i with
        | 0 => exact ⟨0, rfl, by decide⟩
        | 1 => exact ⟨1, rfl, by decide⟩
        | 2 => exact ⟨3, rfl, by decide⟩
        | 3 => exact ⟨2, rfl, by decide⟩
      exact this i hi4
    have hv : v = .int (base κ) := by
      rw [vN, List.getElem?_map, List.getElem?_map, hκi] at hit
      exact (Option.some.inj hit).symm
    subst hv
    refine WA.name (WSt.cel (by exact List.mem_cons_self) C ?_ (by show (sScope (at1 62)).names.lookup _ = _; decide +kernel))
    have C5 : put H4 c (.cell (some (.int (base κ)))) c = some (.cell (some (.int (base κ)))) := put_self _ _ _
    have S5 : put H4 c (.cell (some (.int (base κ)))) r = some (.list (vN mine)) := by rw [put_ne _ _ (Ne.symm hcr)]; exact S
    have Q5 : put H4 c (.cell (some (.int (base κ)))) q = some (.list (vN (kinds.map base))) := by rw [put_ne _ _ hql]; exact Q
    have xE5 : Ext H (put H4 c (.cell (some (.int (base κ))))) := xE.put _ nc
    generalize put H4 c (.cell (some (.int (base κ)))) = H5 at C5 S5 Q5 xE5
    refine WSs.assignC [("kind", c)] ["number"] [none] ?_ (fun p hp => hp) ?_ ?_
    · show CLooks _ (sScope (at1 62)) ["kind"] _ _
      walk_at "CL"
    case refine_3 => walk_at "SW"
    refine WIt.list ?_
    repeat walk_at "M"
    refine ⟨_, _, rfl, xE5 _ _ hl, CompOk.new (fun i out H' => H' = H5 ∧ out = vS ((ns.take i).map (rs κ))) ?_ ⟨rfl, rfl⟩ (fun _ _ _ h => by obtain ⟨rfl, _⟩ := h; exact xE5 _ _ hl) ?_ ?_⟩
    · rw [List.length_map, hnl]; decide +kernel
    · rintro i out H' v H6 hi' ⟨rfl, rfl⟩ ⟨hit, rfl⟩
      rw [vN, List.getElem?_map, Option.map_eq_some_iff] at hit
      obtain ⟨n, hn, rfl⟩ := hit
      have hstep : ∀ y : Str, rs κ n = y → vS ((ns.take i).map (rs κ)) ++ [.str y] = vS ((ns.take (i + 1)).map (rs κ)) := fun y hy => by
        rw [List.take_add_one, hn, ← hy]
        simp only [vS, Option.toList, List.map_append, List.map_cons, List.map_nil]
      repeat walk_at "M"
      refine WT.plain ?_
      repeat walk_at "M"
      refine ⟨m.E.callee _, fun _ i => ?_⟩
      cases i
      refine eof_ok m.E e0 ?_
      repeat walk_at "M"
      refine ⟨fun hc => ?_, fun hc => ?_⟩
      · have h0 : (n : Int) - (base κ : Int) = 0 := by simpa using hc
        have : n = base κ := by omega
        repeat walk_at "M"
        exact ⟨rfl, hstep _ (by unfold rs; rw [if_pos this])⟩
      · have hne : n ≠ base κ := by rintro rfl; simp at hc
        repeat walk_at "M"
        refine WT.plain ?_
        repeat walk_at "M"
        refine ⟨m.E.callee _, fun _ i => ?_⟩
        cases i
        refine eof_ok m.E e0 ?_
        repeat walk_at "M"
        refine ⟨fun hc => ?_, fun hc => ?_⟩
        · have h0 : (n : Int) - (base κ : Int) - 1 = 0 := by simpa using hc
          have : n = base κ + 1 := by omega
          repeat walk_at "M"
          exact ⟨rfl, hstep _ (by unfold rs; rw [if_neg hne, if_pos this])⟩
        · have hne2 : n ≠ base κ + 1 := by
            rintro rfl
            have : ¬ (((base κ + 1 : Nat) : Int) - (base κ : Int) - 1 = 0) := by simpa using hc
            omega
          repeat walk_at "M"
          exact ⟨rfl, hstep _ (by unfold rs; rw [if_neg hne, if_neg hne2])⟩
    rintro out H6 d H7 ⟨rfl, rfl⟩ n7 e7 f7
    have hd : (vN ns).length = ns.length := by simp
    rw [hd, List.take_length] at f7
    have xE7 := xE5.trans e7
    have S7 := e7 _ _ S5
    have Q7 := e7 _ _ Q5
    have C7 := e7 _ _ C5
    have hrd : r ≠ d := ne_of S5 n7
    repeat walk_at "M"
    refine WSs.for (WIt.rangeN 0 10 1 ?_)
    repeat walk_at "M"
    intro r4 H8 n8 e8 f8
    refine ⟨r4, rfl, f8, by decide +kernel, by decide +kernel, fun j vars H' => Ext H H' ∧ ∃ (mine : List Nat) (o2 o3 : Option V), H' c = some (.cell (some (.int (base κ)))) ∧ H' r = some (.list (vN mine)) ∧ H' q = some (.list (vN (kinds.map base))) ∧ H' d = some (.list (vS (ns.map (rs κ)))) ∧ (Found ns other mine fun τ p => τ ∈ kinds.take i ∨ (τ = κ ∧ p < j)) ∧ vars = [some (.ref l), some (.ref r), some (.ref d), o2, o3], ?_, ?_, ?_, ?_⟩
    · exact ⟨xE7.trans e8, mine, _, _, e8 _ _ C7, e8 _ _ S7, e8 _ _ Q7, e8 _ _ f7, Fd.mono fun τ p _ _ hd => hd.resolve_right fun h => Nat.not_lt_zero _ h.2, rfl⟩
    · exact fun _ _ _ _ => trivial
    · rintro j vars H' v H9 hj ⟨xE9, mine, o2, o3, C9, S9, Q9, R9, Fd, rfl⟩ ⟨rfl, rfl⟩
      rw [rg10] at hj
      simp only [Int.zero_add, Int.mul_one]
      have hmi := Fd.1
      obtain ⟨n, hn⟩ : ∃ n, ns[j]? = some n := ⟨_, List.getElem?_eq_getElem (by omega)⟩
      repeat walk_at "M"
      refine item_list (.of R9) (by omega) (by omega) (v := .str (rs κ n)) (by simp [hn]) ?_
      repeat walk_at "M"
      refine ⟨fun hc => ?_, fun hc => ?_⟩
      · have hs : rs κ n = "(" := by simpa using hc
        have hnb : n = base κ := by
          unfold rs at hs
          split at hs
          · assumption
          · exfalso
            split at hs
            · exact absurd hs (by decide +kernel)
            · exact absurd hs (by decide +kernel)
        subst hnb
        obtain ⟨e, he10, hje, ho1, ho2, hne, hW1, hW2⟩ := T.mate hκ hn
        repeat walk_at "M"
        refine WSs.while (fun m vars H' => Ext H9 H' ∧ ∃ e' : Nat, j < e' ∧ e' ≤ e ∧ e - e' ≤ m ∧ vars = [some (.ref l), some (.ref r), some (.ref d), some (.int j), some (.int e')]) 10 ?_ ?_
        · exact ⟨Ext.refl _, j + 1, by omega, by omega, by omega, rfl⟩
        rintro m vars H10 ⟨x10, e', hj1, hj2, hm, rfl⟩
        have C10 := x10 _ _ C9
        have S10 := x10 _ _ S9
        have Q10 := x10 _ _ Q9
        have R10 := x10 _ _ R9
        obtain ⟨n', hn'⟩ : ∃ n, ns[e']? = some n := ⟨_, List.getElem?_eq_getElem (by omega)⟩
        refine WT.mono (Φ := fun b H' => Ext H10 H' ∧ b = decide (e' < e)) ?_ ?_
        · refine WT.or ?_
          repeat walk_at "M"
          refine item_list (.of R10) (by omega) (by omega) (v := .str (rs κ n')) (by simp [hn']) ?_
          repeat walk_at "M"
          refine ⟨fun hc => ⟨Ext.refl _, ?_⟩, fun hc => ?_⟩
          · have h1 : rs κ n' ≠ ")" := by simpa using hc
            have h2 : e' ≠ e := by
              rintro rfl
              rw [hne] at hn'
              apply h1
              rw [← Option.some.inj hn']
              unfold rs
              rw [if_neg (by omega), if_pos rfl]
            exact (decide_eq_true (by omega)).symm
          · repeat walk_at "M"
            refine WT.plain ?_
            repeat walk_at "M"
            refine ⟨mty_str, ?_⟩
            repeat walk_at "M"
            refine sl_runN (m := j) (n := e' + 1) (.of R10) (by simp; rw [hnl]; decide +kernel) (by omega) (by simp; omega) fun z H11 n11 e11 f11 => ?_
            have f11' : H11 z = some (.list (vS (((ns.drop j).take (e' + 1 - j)).map (rs κ)))) := by rw [f11]; simp [vS]
            have hll : ((ns.drop j).take (e' + 1 - j)).length ≤ 500 := by rw [List.length_take, List.length_drop]; omega
            repeat walk_at "M"
            refine call_join (.of f11') (row_join κ _ hll) ?_
            repeat walk_at "M"
            refine ⟨Dc.callee _, fun _ i => ?_⟩
            cases i
            refine check_ok Dc hml (row_plain κ _ hll) fun H12 e12 => ?_
            repeat walk_at "M"
            refine ⟨e11.trans e12, ?_⟩
            rw [row_chk, chk_slice (by omega) (by omega) fun t h1 h2 => ?_]
            · rw [← decide_not, decide_eq_decide]
              by_cases hq : e' = e
              · subst hq
                rw [hW1]; simp
              · have := hW2 (e' + 1) (by omega) (by omega)
                constructor
                · intro _; omega
                · intro _; omega
            · by_cases ht : t = e + 1
              · subst ht; rw [hW1]; exact Int.le_refl _
              · exact Int.le_of_lt (hW2 t h1 (by omega))
        rintro b H11 ⟨x11, rfl⟩
        refine ⟨fun hc => ?_, fun hc => ?_⟩
        · have hlt : e' < e := by simpa using hc
          repeat walk_at "M"
          exact ⟨m - 1, by omega, x10.trans x11, e' + 1, by omega, by omega, by omega, rfl⟩
        · have hlt : ¬ e' < e := by simpa using hc
          have hee : e' = e := by omega
          subst hee
          have x911 := x10.trans x11
          have C11 := x911 _ _ C9
          have S11 := x911 _ _ S9
          have Q11 := x911 _ _ Q9
          have R11 := x911 _ _ R9
          have xE11 := xE9.trans x911
          have hrd' : d ≠ r := Ne.symm hrd
          repeat walk_at "M"
          refine set_nat S11 (by omega) (by omega) ?_
          have S12 : put H11 r (.list (vN (mine.set j e'))) r = some (.list (vN (mine.set j e'))) := put_self _ _ _
          have C12 : put H11 r (.list (vN (mine.set j e'))) c = some (.cell (some (.int (base κ)))) := by rw [put_ne _ _ hcr]; exact C11
          have Q12 : put H11 r (.list (vN (mine.set j e'))) q = some (.list (vN (kinds.map base))) := by rw [put_ne _ _ hqr]; exact Q11
          have R12 : put H11 r (.list (vN (mine.set j e'))) d = some (.list (vS (ns.map (rs κ)))) := by rw [put_ne _ _ hrd']; exact R11
          have xE12 : Ext H (put H11 r (.list (vN (mine.set j e')))) := xE11.put _ nr
          generalize put H11 r (.list (vN (mine.set j e'))) = H12 at S12 C12 Q12 R12 xE12
          repeat walk_at "M"
          refine set_nat S12 (by simp; omega) (by simp; omega) ?_
          repeat walk_at "M"
          refine ⟨xE12.put _ nr, (mine.set j e').set e' j, _, _, by rw [put_ne _ _ hcr]; exact C12, put_self _ _ _, by rw [put_ne _ _ hqr]; exact Q12, by rw [put_ne _ _ hrd']; exact R12, (Fd.set T hκ hn ho1).mono fun τ p hτ hp hd => ?_, rfl⟩
          rcases hd with hd | ⟨rfl, hd⟩
          · exact .inl (.inl hd)
          · rcases Nat.lt_succ_iff_lt_or_eq.mp hd with hd | rfl
            · exact .inl (.inr ⟨rfl, hd⟩)
            · exact .inr rfl
      · have hne : n ≠ base κ := by
          rintro rfl
          have : ¬ rs κ (base κ) = "(" := by simpa using hc
          exact this (by unfold rs; rw [if_pos rfl])
        repeat walk_at "M"
        refine ⟨xE9, mine, _, _, C9, S9, Q9, R9, Fd.mono fun τ p hτ hp hd => ?_, rfl⟩
        rcases hd with hd | ⟨rfl, hd⟩
        · exact .inl hd
        · refine .inr ⟨rfl, ?_⟩
          rcases Nat.lt_succ_iff_lt_or_eq.mp hd with hd | rfl
          · exact hd
          · rw [hn] at hp; exact absurd (Option.some.inj hp) hne
    · rintro vars H' ⟨xE9, mine, o2, o3, C9, S9, Q9, R9, Fd, rfl⟩
      rw [rg10] at Fd
      repeat walk_at "M"
      refine ⟨xE9, _, mine, _, _, _, C9, S9, Q9, Fd.mono fun τ p hτ hp hd => ?_, rfl⟩
      rw [List.take_add_one, hκi] at hd
      rcases List.mem_append.mp hd with hd | hd
      · exact .inl hd
      · have : τ = κ := by simpa using hd
        exact .inr ⟨this, by have := (List.getElem?_eq_some_iff.mp hp).1; omega⟩
  · rintro vars H' ⟨xE, w, mine, o1, o2, o3, C, S, Q, Fd, rfl⟩
    have : mine = other := Found.all T (Fd.mono fun κ p hκ _ _ => by
      have : ∀ κ < 4, κ ∈ kinds.take (vN (kinds.map base)).length := by decide
      exact this κ hκ)
    subst this
    repeat walk_at "M"
    exact h _ _ xE nr S
end
section
/-! the exchange, without the program -/
def insGo : Nat → List (List Nat) → Nat → Nat → Option (List (List Nat) × Nat)
  | 0, _, _, _ => none
  | f + 1, rows, k, n => if k < rows.length ∧ (pile rows k).length ≤ 10 then (if bisR (pile rows k) n < (pile rows k).length then insGo f (rows.set k ((pile rows k).set (bisR (pile rows k) n) n)) (k + 1) ((pile rows k).getD (bisR (pile rows k) n) 0) else some (rows.set k (pile rows k ++ [n]), (pile rows k).length)) else none
def lastAt (rows : List (List Nat)) (place : Nat) : Option Nat := rows.findIdx? fun r => r.drop (r.length - 1) == [place]
abbrev St2 := List (List Nat) × List Nat
def colStep (other : List Nat) (st : St2) (place : Nat) : Option St2 :=
  if other.getD place 0 < place then (insGo 7 st.1 0 (other.getD place 0)).map fun q => (q.1, st.2.set place q.2)
  else (lastAt st.1 place).bind fun k => if (pile st.1 k).length ≤ 10 then some (st.1.set k (pile st.1 k).dropLast, st.2.set place (pile st.1 k).dropLast.length) else none
def colRun (other : List Nat) : Nat → St2 → Option St2
  | 0, st => some st
  | n + 1, st => (colStep other st n).bind (colRun other n)
def driveUp : Nat → List (List Nat) → Nat → Option (List (List Nat) × Nat)
  | 0, rows, n => some (rows, n)
  | k + 1, rows, n => if k < rows.length ∧ 1 ≤ bisL (pile rows k) n ∧ bisL (pile rows k) n ≤ (pile rows k).length ∧ (pile rows k).length ≤ 10 then driveUp k (rows.set k ((pile rows k).set (bisL (pile rows k) n - 1) n)) ((pile rows k).getD (bisL (pile rows k) n - 1) 0) else none
def excStep (other columns : List Nat) (st : St2) (place : Nat) : Option St2 :=
  if columns.getD place 0 < st.1.length ∧ (pile st.1 (columns.getD place 0)).length ≤ 10 then
    (if other.getD place 0 > place then some (st.1.set (columns.getD place 0) (pile st.1 (columns.getD place 0) ++ [place]), st.2)
    else (pile st.1 (columns.getD place 0)).getLast?.bind fun n => (driveUp (columns.getD place 0) (st.1.set (columns.getD place 0) (pile st.1 (columns.getD place 0)).dropLast) n).bind fun q => if q.2 < 10 then some (q.1, (st.2.set place q.2).set q.2 place) else none)
  else none
def excRun (other columns : List Nat) : Nat → Nat → St2 → Option St2
  | 0, _, st => some st
  | n + 1, place, st => (excStep other columns st place).bind (excRun other columns n (place + 1))
def mx (l : List Nat) : Nat := l.foldl Nat.max 0
def endsOf (other : List Nat) (gap : Nat) : List Nat := ((List.range gap).map fun p => other.getD p 0).filter (gap ≤ ·)
def chainStep (lt : Nat → Nat → Bool) (ends l : List Nat) (k : Nat) : List Nat := l ++ [1 + mx (((List.range k).filter fun j => lt (ends.getD j 0) (ends.getD k 0)).map fun j => l.getD j 0)]
def chain (lt : Nat → Nat → Bool) (ends : List Nat) (k : Nat) : List Nat := (List.range k).foldl (chainStep lt ends) []
def most (other : List Nat) (gap : Nat) : List Nat :=
  [mx (chain (fun a b => decide (a < b)) (endsOf other gap) (endsOf other gap).length), mx (chain (fun a b => decide (a > b)) (endsOf other gap) (endsOf other gap).length)]
def closed (other : List Nat) : List Nat := (List.range 10).filter fun p => other.getD p 0 < p
def exch (other : List Nat) : Option (List Nat × List Nat) :=
  (colRun other 10 (List.replicate 6 [], List.replicate 10 0)).bind fun st => (excRun other st.2 10 0 (List.replicate 6 [], List.replicate 10 0)).map fun q => (st.2, q.2)
def fin (other : List Nat) : Bool :=
  match exch other with
  | none => false
  | some (cols, made) => cols.length == 10 && made.length == 10 && ((List.range 9).all fun g => most made (g + 1) == (most other (g + 1)).reverse) && closed made == closed other
end
section
/-! all drawings are tried -/
theorem allOut_step {fin : List Nat → Bool} {f place : Nat} {opens other : List Nat} (h1 : opens.length < 10 - place → allOut fin f (place + 1) (opens ++ [place]) other = true) (h2 : ∀ q ∈ opens, allOut fin f (place + 1) (opens.erase q) ((other.set place q).set q place) = true) : allOut fin (f + 1) place opens other = true := by
  rw [allOut, Bool.and_eq_true]
  refine ⟨?_, List.all_eq_true.mpr h2⟩
  split
  · rename_i h; exact h1 h
  · rfl
theorem tr6 : allOut fin 4 6 [1, 2, 3, 4] [5, 0, 0, 0, 0, 0, 0, 0, 0, 0] = true := by decide +kernel
theorem tr7 : allOut fin 4 6 [0, 2, 3, 4] [0, 5, 0, 0, 0, 1, 0, 0, 0, 0] = true := by decide +kernel
theorem tr8 : allOut fin 4 6 [0, 1, 3, 4] [0, 0, 5, 0, 0, 2, 0, 0, 0, 0] = true := by decide +kernel
theorem tr9 : allOut fin 4 6 [0, 1, 2, 4] [0, 0, 0, 5, 0, 3, 0, 0, 0, 0] = true := by decide +kernel
theorem tr10 : allOut fin 4 6 [0, 1, 2, 3] [0, 0, 0, 0, 5, 4, 0, 0, 0, 0] = true := by decide +kernel
theorem tr5 : allOut fin 5 5 [0, 1, 2, 3, 4] [0, 0, 0, 0, 0, 0, 0, 0, 0, 0] = true := allOut_step (fun h => absurd h (by decide)) (by
  intro q hq
  simp only [List.mem_cons, List.not_mem_nil, or_false] at hq
  rcases hq with rfl | rfl | rfl | rfl | rfl
  · exact tr6
  · exact tr7
  · exact tr8
  · exact tr9
  · exact tr10)
theorem tr12 : allOut fin 4 6 [1, 2, 3, 5] [4, 0, 0, 0, 0, 0, 0, 0, 0, 0] = true := by decide +kernel
theorem tr13 : allOut fin 4 6 [2, 3] [4, 5, 0, 0, 0, 1, 0, 0, 0, 0] = true := by decide +kernel
theorem tr14 : allOut fin 4 6 [1, 3] [4, 0, 5, 0, 0, 2, 0, 0, 0, 0] = true := by decide +kernel
theorem tr15 : allOut fin 4 6 [1, 2] [4, 0, 0, 5, 0, 3, 0, 0, 0, 0] = true := by decide +kernel
theorem tr11 : allOut fin 5 5 [1, 2, 3] [4, 0, 0, 0, 0, 0, 0, 0, 0, 0] = true := allOut_step (fun _ => tr12) (by
  intro q hq
  simp only [List.mem_cons, List.not_mem_nil, or_false] at hq
  rcases hq with rfl | rfl | rfl
  · exact tr13
  · exact tr14
  · exact tr15)
theorem tr17 : allOut fin 4 6 [0, 2, 3, 5] [0, 4, 0, 0, 1, 0, 0, 0, 0, 0] = true := by decide +kernel
theorem tr18 : allOut fin 4 6 [2, 3] [5, 4, 0, 0, 1, 0, 0, 0, 0, 0] = true := by decide +kernel
theorem tr19 : allOut fin 4 6 [0, 3] [0, 4, 5, 0, 1, 2, 0, 0, 0, 0] = true := by decide +kernel
theorem tr20 : allOut fin 4 6 [0, 2] [0, 4, 0, 5, 1, 3, 0, 0, 0, 0] = true := by decide +kernel
theorem tr16 : allOut fin 5 5 [0, 2, 3] [0, 4, 0, 0, 1, 0, 0, 0, 0, 0] = true := allOut_step (fun _ => tr17) (by
  intro q hq
  simp only [List.mem_cons, List.not_mem_nil, or_false] at hq
  rcases hq with rfl | rfl | rfl
  · exact tr18
  · exact tr19
  · exact tr20)
theorem tr22 : allOut fin 4 6 [0, 1, 3, 5] [0, 0, 4, 0, 2, 0, 0, 0, 0, 0] = true := by decide +kernel
theorem tr23 : allOut fin 4 6 [1, 3] [5, 0, 4, 0, 2, 0, 0, 0, 0, 0] = true := by decide +kernel
theorem tr24 : allOut fin 4 6 [0, 3] [0, 5, 4, 0, 2, 1, 0, 0, 0, 0] = true := by decide +kernel
theorem tr25 : allOut fin 4 6 [0, 1] [0, 0, 4, 5, 2, 3, 0, 0, 0, 0] = true := by decide +kernel
theorem tr21 : allOut fin 5 5 [0, 1, 3] [0, 0, 4, 0, 2, 0, 0, 0, 0, 0] = true := allOut_step (fun _ => tr22) (by
  intro q hq
  simp only [List.mem_cons, List.not_mem_nil, or_false] at hq
  rcases hq with rfl | rfl | rfl
  · exact tr23
  · exact tr24
  · exact tr25)
theorem tr27 : allOut fin 4 6 [0, 1, 2, 5] [0, 0, 0, 4, 3, 0, 0, 0, 0, 0] = true := by decide +kernel
theorem tr28 : allOut fin 4 6 [1, 2] [5, 0, 0, 4, 3, 0, 0, 0, 0, 0] = true := by decide +kernel
theorem tr29 : allOut fin 4 6 [0, 2] [0, 5, 0, 4, 3, 1, 0, 0, 0, 0] = true := by decide +kernel
theorem tr30 : allOut fin 4 6 [0, 1] [0, 0, 5, 4, 3, 2, 0, 0, 0, 0] = true := by decide +kernel
theorem tr26 : allOut fin 5 5 [0, 1, 2] [0, 0, 0, 4, 3, 0, 0, 0, 0, 0] = true := allOut_step (fun _ => tr27) (by
  intro q hq
  simp only [List.mem_cons, List.not_mem_nil, or_false] at hq
  rcases hq with rfl | rfl | rfl
  · exact tr28
  · exact tr29
  · exact tr30)
theorem tr4 : allOut fin 6 4 [0, 1, 2, 3] [0, 0, 0, 0, 0, 0, 0, 0, 0, 0] = true := allOut_step (fun _ => tr5) (by
  intro q hq
  simp only [List.mem_cons, List.not_mem_nil, or_false] at hq
  rcases hq with rfl | rfl | rfl | rfl
  · exact tr11
  · exact tr16
  · exact tr21
  · exact tr26)
theorem tr33 : allOut fin 4 6 [1, 2, 4, 5] [3, 0, 0, 0, 0, 0, 0, 0, 0, 0] = true := by decide +kernel
theorem tr34 : allOut fin 4 6 [2, 4] [3, 5, 0, 0, 0, 1, 0, 0, 0, 0] = true := by decide +kernel
theorem tr35 : allOut fin 4 6 [1, 4] [3, 0, 5, 0, 0, 2, 0, 0, 0, 0] = true := by decide +kernel
theorem tr36 : allOut fin 4 6 [1, 2] [3, 0, 0, 0, 5, 4, 0, 0, 0, 0] = true := by decide +kernel
theorem tr32 : allOut fin 5 5 [1, 2, 4] [3, 0, 0, 0, 0, 0, 0, 0, 0, 0] = true := allOut_step (fun _ => tr33) (by
  intro q hq
  simp only [List.mem_cons, List.not_mem_nil, or_false] at hq
  rcases hq with rfl | rfl | rfl
  · exact tr34
  · exact tr35
  · exact tr36)
theorem tr38 : allOut fin 4 6 [2, 5] [3, 4, 0, 0, 1, 0, 0, 0, 0, 0] = true := by decide +kernel
theorem tr39 : allOut fin 4 6 [] [3, 4, 5, 0, 1, 2, 0, 0, 0, 0] = true := by decide +kernel
theorem tr37 : allOut fin 5 5 [2] [3, 4, 0, 0, 1, 0, 0, 0, 0, 0] = true := allOut_step (fun _ => tr38) (by
  intro q hq
  simp only [List.mem_cons, List.not_mem_nil, or_false] at hq
  subst hq
  exact tr39)
theorem tr41 : allOut fin 4 6 [1, 5] [3, 0, 4, 0, 2, 0, 0, 0, 0, 0] = true := by decide +kernel
theorem tr42 : allOut fin 4 6 [] [3, 5, 4, 0, 2, 1, 0, 0, 0, 0] = true := by decide +kernel
theorem tr40 : allOut fin 5 5 [1] [3, 0, 4, 0, 2, 0, 0, 0, 0, 0] = true := allOut_step (fun _ => tr41) (by
  intro q hq
  simp only [List.mem_cons, List.not_mem_nil, or_false] at hq
  subst hq
  exact tr42)
theorem tr31 : allOut fin 6 4 [1, 2] [3, 0, 0, 0, 0, 0, 0, 0, 0, 0] = true := allOut_step (fun _ => tr32) (by
  intro q hq
  simp only [List.mem_cons, List.not_mem_nil, or_false] at hq
  rcases hq with rfl | rfl
  · exact tr37
  · exact tr40)
theorem tr45 : allOut fin 4 6 [0, 2, 4, 5] [0, 3, 0, 1, 0, 0, 0, 0, 0, 0] = true := by decide +kernel
theorem tr46 : allOut fin 4 6 [2, 4] [5, 3, 0, 1, 0, 0, 0, 0, 0, 0] = true := by decide +kernel
theorem tr47 : allOut fin 4 6 [0, 4] [0, 3, 5, 1, 0, 2, 0, 0, 0, 0] = true := by decide +kernel
theorem tr48 : allOut fin 4 6 [0, 2] [0, 3, 0, 1, 5, 4, 0, 0, 0, 0] = true := by decide +kernel
theorem tr44 : allOut fin 5 5 [0, 2, 4] [0, 3, 0, 1, 0, 0, 0, 0, 0, 0] = true := allOut_step (fun _ => tr45) (by
  intro q hq
  simp only [List.mem_cons, List.not_mem_nil, or_false] at hq
  rcases hq with rfl | rfl | rfl
  · exact tr46
  · exact tr47
  · exact tr48)
theorem tr50 : allOut fin 4 6 [2, 5] [4, 3, 0, 1, 0, 0, 0, 0, 0, 0] = true := by decide +kernel
theorem tr51 : allOut fin 4 6 [] [4, 3, 5, 1, 0, 2, 0, 0, 0, 0] = true := by decide +kernel
theorem tr49 : allOut fin 5 5 [2] [4, 3, 0, 1, 0, 0, 0, 0, 0, 0] = true := allOut_step (fun _ => tr50) (by
  intro q hq
  simp only [List.mem_cons, List.not_mem_nil, or_false] at hq
  subst hq
  exact tr51)
theorem tr53 : allOut fin 4 6 [0, 5] [0, 3, 4, 1, 2, 0, 0, 0, 0, 0] = true := by decide +kernel
theorem tr54 : allOut fin 4 6 [] [5, 3, 4, 1, 2, 0, 0, 0, 0, 0] = true := by decide +kernel
theorem tr52 : allOut fin 5 5 [0] [0, 3, 4, 1, 2, 0, 0, 0, 0, 0] = true := allOut_step (fun _ => tr53) (by
  intro q hq
  simp only [List.mem_cons, List.not_mem_nil, or_false] at hq
  subst hq
  exact tr54)
theorem tr43 : allOut fin 6 4 [0, 2] [0, 3, 0, 1, 0, 0, 0, 0, 0, 0] = true := allOut_step (fun _ => tr44) (by
  intro q hq
  simp only [List.mem_cons, List.not_mem_nil, or_false] at hq
  rcases hq with rfl | rfl
  · exact tr49
  · exact tr52)
theorem tr57 : allOut fin 4 6 [0, 1, 4, 5] [0, 0, 3, 2, 0, 0, 0, 0, 0, 0] = true := by decide +kernel
theorem tr58 : allOut fin 4 6 [1, 4] [5, 0, 3, 2, 0, 0, 0, 0, 0, 0] = true := by decide +kernel
theorem tr59 : allOut fin 4 6 [0, 4] [0, 5, 3, 2, 0, 1, 0, 0, 0, 0] = true := by decide +kernel
theorem tr60 : allOut fin 4 6 [0, 1] [0, 0, 3, 2, 5, 4, 0, 0, 0, 0] = true := by decide +kernel
theorem tr56 : allOut fin 5 5 [0, 1, 4] [0, 0, 3, 2, 0, 0, 0, 0, 0, 0] = true := allOut_step (fun _ => tr57) (by
  intro q hq
  simp only [List.mem_cons, List.not_mem_nil, or_false] at hq
  rcases hq with rfl | rfl | rfl
  · exact tr58
  · exact tr59
  · exact tr60)
theorem tr62 : allOut fin 4 6 [1, 5] [4, 0, 3, 2, 0, 0, 0, 0, 0, 0] = true := by decide +kernel
theorem tr63 : allOut fin 4 6 [] [4, 5, 3, 2, 0, 1, 0, 0, 0, 0] = true := by decide +kernel
theorem tr61 : allOut fin 5 5 [1] [4, 0, 3, 2, 0, 0, 0, 0, 0, 0] = true := allOut_step (fun _ => tr62) (by
  intro q hq
  simp only [List.mem_cons, List.not_mem_nil, or_false] at hq
  subst hq
  exact tr63)
theorem tr65 : allOut fin 4 6 [0, 5] [0, 4, 3, 2, 1, 0, 0, 0, 0, 0] = true := by decide +kernel
theorem tr66 : allOut fin 4 6 [] [5, 4, 3, 2, 1, 0, 0, 0, 0, 0] = true := by decide +kernel
theorem tr64 : allOut fin 5 5 [0] [0, 4, 3, 2, 1, 0, 0, 0, 0, 0] = true := allOut_step (fun _ => tr65) (by
  intro q hq
  simp only [List.mem_cons, List.not_mem_nil, or_false] at hq
  subst hq
  exact tr66)
theorem tr55 : allOut fin 6 4 [0, 1] [0, 0, 3, 2, 0, 0, 0, 0, 0, 0] = true := allOut_step (fun _ => tr56) (by
  intro q hq
  simp only [List.mem_cons, List.not_mem_nil, or_false] at hq
  rcases hq with rfl | rfl
  · exact tr61
  · exact tr64)
theorem tr3 : allOut fin 7 3 [0, 1, 2] [0, 0, 0, 0, 0, 0, 0, 0, 0, 0] = true := allOut_step (fun _ => tr4) (by
  intro q hq
  simp only [List.mem_cons, List.not_mem_nil, or_false] at hq
  rcases hq with rfl | rfl | rfl
  · exact tr31
  · exact tr43
  · exact tr55)
theorem tr70 : allOut fin 4 6 [1, 3, 4, 5] [2, 0, 0, 0, 0, 0, 0, 0, 0, 0] = true := by decide +kernel
theorem tr71 : allOut fin 4 6 [3, 4] [2, 5, 0, 0, 0, 1, 0, 0, 0, 0] = true := by decide +kernel
theorem tr72 : allOut fin 4 6 [1, 4] [2, 0, 0, 5, 0, 3, 0, 0, 0, 0] = true := by decide +kernel
theorem tr73 : allOut fin 4 6 [1, 3] [2, 0, 0, 0, 5, 4, 0, 0, 0, 0] = true := by decide +kernel
theorem tr69 : allOut fin 5 5 [1, 3, 4] [2, 0, 0, 0, 0, 0, 0, 0, 0, 0] = true := allOut_step (fun _ => tr70) (by
  intro q hq
  simp only [List.mem_cons, List.not_mem_nil, or_false] at hq
  rcases hq with rfl | rfl | rfl
  · exact tr71
  · exact tr72
  · exact tr73)
theorem tr75 : allOut fin 4 6 [3, 5] [2, 4, 0, 0, 1, 0, 0, 0, 0, 0] = true := by decide +kernel
theorem tr76 : allOut fin 4 6 [] [2, 4, 0, 5, 1, 3, 0, 0, 0, 0] = true := by decide +kernel
theorem tr74 : allOut fin 5 5 [3] [2, 4, 0, 0, 1, 0, 0, 0, 0, 0] = true := allOut_step (fun _ => tr75) (by
  intro q hq
  simp only [List.mem_cons, List.not_mem_nil, or_false] at hq
  subst hq
  exact tr76)
theorem tr78 : allOut fin 4 6 [1, 5] [2, 0, 0, 4, 3, 0, 0, 0, 0, 0] = true := by decide +kernel
theorem tr79 : allOut fin 4 6 [] [2, 5, 0, 4, 3, 1, 0, 0, 0, 0] = true := by decide +kernel
theorem tr77 : allOut fin 5 5 [1] [2, 0, 0, 4, 3, 0, 0, 0, 0, 0] = true := allOut_step (fun _ => tr78) (by
  intro q hq
  simp only [List.mem_cons, List.not_mem_nil, or_false] at hq
  subst hq
  exact tr79)
theorem tr68 : allOut fin 6 4 [1, 3] [2, 0, 0, 0, 0, 0, 0, 0, 0, 0] = true := allOut_step (fun _ => tr69) (by
  intro q hq
  simp only [List.mem_cons, List.not_mem_nil, or_false] at hq
  rcases hq with rfl | rfl
  · exact tr74
  · exact tr77)
theorem tr82 : allOut fin 4 6 [4, 5] [2, 3, 0, 1, 0, 0, 0, 0, 0, 0] = true := by decide +kernel
theorem tr83 : allOut fin 4 6 [] [2, 3, 0, 1, 5, 4, 0, 0, 0, 0] = true := by decide +kernel
theorem tr81 : allOut fin 5 5 [4] [2, 3, 0, 1, 0, 0, 0, 0, 0, 0] = true := allOut_step (fun _ => tr82) (by
  intro q hq
  simp only [List.mem_cons, List.not_mem_nil, or_false] at hq
  subst hq
  exact tr83)
theorem tr80 : allOut fin 6 4 [] [2, 3, 0, 1, 0, 0, 0, 0, 0, 0] = true := allOut_step (fun _ => tr81) (fun q hq => nomatch hq)
theorem tr67 : allOut fin 7 3 [1] [2, 0, 0, 0, 0, 0, 0, 0, 0, 0] = true := allOut_step (fun _ => tr68) (by
  intro q hq
  simp only [List.mem_cons, List.not_mem_nil, or_false] at hq
  subst hq
  exact tr80)
theorem tr87 : allOut fin 4 6 [0, 3, 4, 5] [0, 2, 1, 0, 0, 0, 0, 0, 0, 0] = true := by decide +kernel
theorem tr88 : allOut fin 4 6 [3, 4] [5, 2, 1, 0, 0, 0, 0, 0, 0, 0] = true := by decide +kernel
theorem tr89 : allOut fin 4 6 [0, 4] [0, 2, 1, 5, 0, 3, 0, 0, 0, 0] = true := by decide +kernel
theorem tr90 : allOut fin 4 6 [0, 3] [0, 2, 1, 0, 5, 4, 0, 0, 0, 0] = true := by decide +kernel
theorem tr86 : allOut fin 5 5 [0, 3, 4] [0, 2, 1, 0, 0, 0, 0, 0, 0, 0] = true := allOut_step (fun _ => tr87) (by
  intro q hq
  simp only [List.mem_cons, List.not_mem_nil, or_false] at hq
  rcases hq with rfl | rfl | rfl
  · exact tr88
  · exact tr89
  · exact tr90)
theorem tr92 : allOut fin 4 6 [3, 5] [4, 2, 1, 0, 0, 0, 0, 0, 0, 0] = true := by decide +kernel
theorem tr93 : allOut fin 4 6 [] [4, 2, 1, 5, 0, 3, 0, 0, 0, 0] = true := by decide +kernel
theorem tr91 : allOut fin 5 5 [3] [4, 2, 1, 0, 0, 0, 0, 0, 0, 0] = true := allOut_step (fun _ => tr92) (by
  intro q hq
  simp only [List.mem_cons, List.not_mem_nil, or_false] at hq
  subst hq
  exact tr93)
theorem tr95 : allOut fin 4 6 [0, 5] [0, 2, 1, 4, 3, 0, 0, 0, 0, 0] = true := by decide +kernel
theorem tr96 : allOut fin 4 6 [] [5, 2, 1, 4, 3, 0, 0, 0, 0, 0] = true := by decide +kernel
theorem tr94 : allOut fin 5 5 [0] [0, 2, 1, 4, 3, 0, 0, 0, 0, 0] = true := allOut_step (fun _ => tr95) (by
  intro q hq
  simp only [List.mem_cons, List.not_mem_nil, or_false] at hq
  subst hq
  exact tr96)
theorem tr85 : allOut fin 6 4 [0, 3] [0, 2, 1, 0, 0, 0, 0, 0, 0, 0] = true := allOut_step (fun _ => tr86) (by
  intro q hq
  simp only [List.mem_cons, List.not_mem_nil, or_false] at hq
  rcases hq with rfl | rfl
  · exact tr91
  · exact tr94)
theorem tr99 : allOut fin 4 6 [4, 5] [3, 2, 1, 0, 0, 0, 0, 0, 0, 0] = true := by decide +kernel
theorem tr100 : allOut fin 4 6 [] [3, 2, 1, 0, 5, 4, 0, 0, 0, 0] = true := by decide +kernel
theorem tr98 : allOut fin 5 5 [4] [3, 2, 1, 0, 0, 0, 0, 0, 0, 0] = true := allOut_step (fun _ => tr99) (by
  intro q hq
  simp only [List.mem_cons, List.not_mem_nil, or_false] at hq
  subst hq
  exact tr100)
theorem tr97 : allOut fin 6 4 [] [3, 2, 1, 0, 0, 0, 0, 0, 0, 0] = true := allOut_step (fun _ => tr98) (fun q hq => nomatch hq)
theorem tr84 : allOut fin 7 3 [0] [0, 2, 1, 0, 0, 0, 0, 0, 0, 0] = true := allOut_step (fun _ => tr85) (by
  intro q hq
  simp only [List.mem_cons, List.not_mem_nil, or_false] at hq
  subst hq
  exact tr97)
theorem tr2 : allOut fin 8 2 [0, 1] [0, 0, 0, 0, 0, 0, 0, 0, 0, 0] = true := allOut_step (fun _ => tr3) (by
  intro q hq
  simp only [List.mem_cons, List.not_mem_nil, or_false] at hq
  rcases hq with rfl | rfl
  · exact tr67
  · exact tr84)
theorem tr105 : allOut fin 4 6 [2, 3, 4, 5] [1, 0, 0, 0, 0, 0, 0, 0, 0, 0] = true := by decide +kernel
theorem tr106 : allOut fin 4 6 [3, 4] [1, 0, 5, 0, 0, 2, 0, 0, 0, 0] = true := by decide +kernel
theorem tr107 : allOut fin 4 6 [2, 4] [1, 0, 0, 5, 0, 3, 0, 0, 0, 0] = true := by decide +kernel
theorem tr108 : allOut fin 4 6 [2, 3] [1, 0, 0, 0, 5, 4, 0, 0, 0, 0] = true := by decide +kernel
theorem tr104 : allOut fin 5 5 [2, 3, 4] [1, 0, 0, 0, 0, 0, 0, 0, 0, 0] = true := allOut_step (fun _ => tr105) (by
  intro q hq
  simp only [List.mem_cons, List.not_mem_nil, or_false] at hq
  rcases hq with rfl | rfl | rfl
  · exact tr106
  · exact tr107
  · exact tr108)
theorem tr110 : allOut fin 4 6 [3, 5] [1, 0, 4, 0, 2, 0, 0, 0, 0, 0] = true := by decide +kernel
theorem tr111 : allOut fin 4 6 [] [1, 0, 4, 5, 2, 3, 0, 0, 0, 0] = true := by decide +kernel
theorem tr109 : allOut fin 5 5 [3] [1, 0, 4, 0, 2, 0, 0, 0, 0, 0] = true := allOut_step (fun _ => tr110) (by
  intro q hq
  simp only [List.mem_cons, List.not_mem_nil, or_false] at hq
  subst hq
  exact tr111)
theorem tr113 : allOut fin 4 6 [2, 5] [1, 0, 0, 4, 3, 0, 0, 0, 0, 0] = true := by decide +kernel
theorem tr114 : allOut fin 4 6 [] [1, 0, 5, 4, 3, 2, 0, 0, 0, 0] = true := by decide +kernel
theorem tr112 : allOut fin 5 5 [2] [1, 0, 0, 4, 3, 0, 0, 0, 0, 0] = true := allOut_step (fun _ => tr113) (by
  intro q hq
  simp only [List.mem_cons, List.not_mem_nil, or_false] at hq
  subst hq
  exact tr114)
theorem tr103 : allOut fin 6 4 [2, 3] [1, 0, 0, 0, 0, 0, 0, 0, 0, 0] = true := allOut_step (fun _ => tr104) (by
  intro q hq
  simp only [List.mem_cons, List.not_mem_nil, or_false] at hq
  rcases hq with rfl | rfl
  · exact tr109
  · exact tr112)
theorem tr117 : allOut fin 4 6 [4, 5] [1, 0, 3, 2, 0, 0, 0, 0, 0, 0] = true := by decide +kernel
theorem tr118 : allOut fin 4 6 [] [1, 0, 3, 2, 5, 4, 0, 0, 0, 0] = true := by decide +kernel
theorem tr116 : allOut fin 5 5 [4] [1, 0, 3, 2, 0, 0, 0, 0, 0, 0] = true := allOut_step (fun _ => tr117) (by
  intro q hq
  simp only [List.mem_cons, List.not_mem_nil, or_false] at hq
  subst hq
  exact tr118)
theorem tr115 : allOut fin 6 4 [] [1, 0, 3, 2, 0, 0, 0, 0, 0, 0] = true := allOut_step (fun _ => tr116) (fun q hq => nomatch hq)
theorem tr102 : allOut fin 7 3 [2] [1, 0, 0, 0, 0, 0, 0, 0, 0, 0] = true := allOut_step (fun _ => tr103) (by
  intro q hq
  simp only [List.mem_cons, List.not_mem_nil, or_false] at hq
  subst hq
  exact tr115)
theorem tr101 : allOut fin 8 2 [] [1, 0, 0, 0, 0, 0, 0, 0, 0, 0] = true := allOut_step (fun _ => tr102) (fun q hq => nomatch hq)
theorem tr1 : allOut fin 9 1 [0] [0, 0, 0, 0, 0, 0, 0, 0, 0, 0] = true := allOut_step (fun _ => tr2) (by
  intro q hq
  simp only [List.mem_cons, List.not_mem_nil, or_false] at hq
  subst hq
  exact tr101)
theorem tr0 : allOut fin 10 0 [] [0, 0, 0, 0, 0, 0, 0, 0, 0, 0] = true := allOut_step (fun _ => tr1) (fun q hq => nomatch hq)
theorem all_fin : allOut fin 10 0 [] (List.replicate 10 0) = true := tr0
end
section
theorem WSs.exprAny {B : Base} {k : Nat} {F : FI} {vars : List (Option V)} {H : Hp} {e : PySem.Expr} {pos : Pos} {rest : List Stmt} {Φ : Fl → List (Option V) → Hp → Prop} (h : WE B k F e vars H fun _ H1 => WSs B k F rest vars H1 Φ)
    (hs : ∀ env, swapsWith e none pos.line env = pure false := by intro; with_unfolding_all rfl) : WSs B k F (.Expr e pos :: rest) vars H Φ := by
  refine WSs.cons fun A env P s r i f o => ?_
  refine wpAny_Expr_any (wpAny_mono (h A env P s r i f o) ?_ fun _ _ f => f.elim) (by unfold interactive; rw [f.fn]; rfl) (hs env)
  rintro val s1 ⟨v, H1, ia, f1, o1, h1⟩
  exact ⟨_, _, _, .next, f1, o1, h1⟩
theorem WItem.mono {B : Base} {k : Nat} {a i : V} {H : Hp} {Φ Ψ : V → Hp → Prop} (h : WItem B k a i H Φ) (g : ∀ v H', Φ v H' → Ψ v H') : WItem B k a i H Ψ :=
  fun A P s x y r ib o hx hy => let ⟨h1, h2⟩ := h A P s x y r ib o hx hy; ⟨h1, noE h2 fun _ _ ⟨v, H', a, b, c⟩ => ⟨v, H', a, b, g _ _ c⟩⟩
theorem Rows.item {B : Base} {k : Nat} {H0 H : Hp} {p : Addr} {as : List Addr} {rs : List (List Nat)} {κ : Nat} {Φ : V → Hp → Prop} (R : Rows H0 H p as rs) (hκ : κ < rs.length) (hz : rs.length ≤ 1000) (h : ∀ a, as[κ]? = some a → H a = some (.list (vN (pile rs κ))) → Φ (.ref a) H) : WItem B k (.ref p) (.int κ) H Φ := by
  obtain ⟨a, h1, h2⟩ := R.get hκ
  exact item_list (.of R.top) (by omega) (by omega) (R.at h1) (h a h1 h2)
/-- empty rows made -/
theorem comp_rows {B : Base} {k n : Nat} {F' : FI} {vs0 : List (Option V)} {p p2 : Pos} {x : Str} {Ψ : Addr → Hp → Prop} {H1 : Hp} (hn : n ≤ 1000) (hc : rgCount 0 n 1 = n) (hx : ∀ v, ∃ us, SetAt F'.names vs0 x v us) (h : ∀ d as H', Ext H1 H' → Rows H1 H' d as (List.replicate n []) → H1 d = none → Ψ d H') :
    CompOk B k F' vs0 (.List [] p) (.Name x p2) [] Ψ (rgCount 0 n 1) (fun _ => True) (fun i H v H' => v = .int (0 + i * 1) ∧ H' = H) H1 := by
  refine CompOk.new (fun i out H' => Ext H1 H' ∧ ∃ as : List Addr, out = as.map V.ref ∧ as.length = i ∧ as.Nodup ∧ ∀ a ∈ as, H1 a = none ∧ H' a = some (.list [])) ?_ ⟨Ext.refl _, [], rfl, rfl, .nil, fun _ h => nomatch h⟩ (fun _ _ _ _ => trivial) ?_ ?_
  · rw [hc]; exact Nat.le_trans hn (by decide +kernel)
  · rintro i out H v H2 hi ⟨xE, as, rfl, hl, nd, ha⟩ ⟨rfl, rfl⟩
    obtain ⟨us, hus⟩ := hx (.int (0 + i * 1))
    refine WA.name (WSt.loc hus ?_)
    refine ⟨fun _ => ?_, fun h => nomatch h⟩
    refine WE.listN ?_
    repeat walk_at "M"
    refine ⟨by decide +kernel, fun b H3 n3 e3 f3 => ?_⟩
    refine ⟨xE.trans e3, as ++ [b], by simp, by simp [hl], ?_, fun a hm => ?_⟩
    · refine List.nodup_append.mpr ⟨nd, by simp, fun a hm c hc e => ?_⟩
      have hcb : c = b := by simpa using hc
      rw [e, hcb] at hm
      have := (ha b hm).2
      rw [n3] at this; cases this
    · rcases List.mem_append.mp hm with hm | hm
      · exact ⟨(ha a hm).1, e3 _ _ (ha a hm).2⟩
      · rw [List.mem_singleton.mp hm]; exact ⟨xE.new n3, f3⟩
  · rintro out H d H' ⟨xE, as, rfl, hl, nd, ha⟩ nd' e' f'
    rw [hc] at hl
    refine h d as H' (xE.trans e') ⟨f', fun i a hi => ?_, nd, fun hm => ?_, fun a hm => (ha a hm).1, by simp [hl]⟩ (xE.new nd')
    · have hlt := (List.getElem?_eq_some_iff.mp hi).1
      exact ⟨[], by rw [List.getElem?_replicate, if_pos (by omega)], by rw [e' _ _ (ha a (List.mem_of_getElem? hi)).2]; rfl⟩
    · have := (ha d hm).2
      rw [nd'] at this; cases this
theorem rg6 : rgCount 0 6 1 = 6 := by decide +kernel
theorem rgDown : rgCount 9 (-1) (-1) = 10 := by decide +kernel
theorem Rows.base {H0 H1 H : Hp} {p : Addr} {as : List Addr} {rs : List (List Nat)} (R : Rows H1 H p as rs) (x : Ext H0 H1) : Rows H0 H p as rs := ⟨R.top, R.rows, R.nd, R.np, fun a h => x.new (R.new a h), R.len⟩
theorem lastAt_some {rows : List (List Nat)} {place k : Nat} (h : lastAt rows place = some k) : k < rows.length ∧ (pile rows k).drop ((pile rows k).length - 1) = [place] ∧ ∀ j, j < k → (pile rows j).drop ((pile rows j).length - 1) ≠ [place] := by
  unfold lastAt at h
  have h' := List.findIdx?_eq_some_iff_getElem.mp h
  obtain ⟨h1, h2, h3⟩ := h'
  have e : ∀ j, (hj : j < rows.length) → pile rows j = rows[j] := fun j hj => by unfold pile; rw [List.getD_eq_getElem?_getD, List.getElem?_eq_getElem hj]; rfl
  refine ⟨h1, by rw [e k h1]; exact eq_of_beq h2, fun j hj => ?_⟩
  intro q
  rw [e j (by omega)] at q
  exact h3 j hj (beq_iff_eq.mpr q)
theorem colStep_len {other : List Nat} {st st' : St2} {place : Nat} (h : colStep other st place = some st') : st'.2.length = st.2.length := by
  unfold colStep at h
  split at h
  · obtain ⟨q, _, rfl⟩ := Option.map_eq_some_iff.mp h; simp
  · obtain ⟨k, _, h⟩ := Option.bind_eq_some_iff.mp h
    split at h
    · cases h; simp
    · cases h
theorem insGo_len : ∀ (f : Nat) (rows : List (List Nat)) (k n : Nat) (q : List (List Nat) × Nat), insGo f rows k n = some q → q.1.length = rows.length
  | 0, _, _, _, _, h => by simp [insGo] at h
  | f + 1, rows, k, n, q, h => by
    rw [insGo] at h
    split at h
    · split at h
      · have := insGo_len f _ _ _ _ h; simpa using this
      · cases h; simp
    · cases h
theorem insGo_guard {f : Nat} {rows : List (List Nat)} {k n : Nat} {q : List (List Nat) × Nat} (h : insGo f rows k n = some q) : k < rows.length ∧ (pile rows k).length ≤ 10 := by
  cases f with
  | zero => simp [insGo] at h
  | succ f =>
    rw [insGo] at h
    split at h
    · rename_i hh; exact hh
    · cases h
theorem getD_at {l : List Nat} {i : Nat} (h : i < l.length) : l[i]? = some (l.getD i 0) := by rw [List.getD_eq_getElem?_getD, List.getElem?_eq_getElem h]; rfl
theorem pile_of_set {ps : List (List Nat)} {κ : Nat} {r : List Nat} (h : κ < ps.length) : pile (ps.set κ r) κ = r := by rw [pile_set h, if_pos rfl]
theorem insGo_rows {m : Nat} : ∀ (f : Nat) (rows : List (List Nat)) (k n : Nat) (q : List (List Nat) × Nat), insGo f rows k n = some q → (∀ j, (pile rows j).length ≤ m) → ∀ j, (pile q.1 j).length ≤ m + 1
  | 0, _, _, _, _, h, _ => by simp [insGo] at h
  | f + 1, rows, k, n, q, h, hm => by
    rw [insGo] at h
    split at h
    · rename_i hg
      split at h
      · refine insGo_rows f _ _ _ q h fun j => ?_
        rw [pile_set hg.1]
        split
        · rw [List.length_set]; exact hm k
        · exact hm j
      · cases h
        intro j
        rw [pile_set hg.1]
        split
        · rw [List.length_append, List.length_singleton]; exact Nat.succ_le_succ (hm k)
        · exact Nat.le_succ_of_le (hm j)
    · cases h
theorem colStep_rows {m : Nat} {other : List Nat} {st st' : St2} {place : Nat} (h : colStep other st place = some st') (hm : ∀ j, (pile st.1 j).length ≤ m) : ∀ j, (pile st'.1 j).length ≤ m + 1 := by
  unfold colStep at h
  split at h
  · obtain ⟨q, hq, rfl⟩ := Option.map_eq_some_iff.mp h
    exact insGo_rows _ _ _ _ _ hq hm
  · obtain ⟨k, hk, h⟩ := Option.bind_eq_some_iff.mp h
    split at h
    · cases h
      intro j
      rw [pile_set (lastAt_some hk).1]
      split
      · rw [List.length_dropLast]; have := hm k; omega
      · exact Nat.le_succ_of_le (hm j)
    · cases h
theorem cols_ok {B : Base} {k a ar : Nat} (D : Def1 B 63 a .none .none) (b : Blt B) (gb : Bis B 1 ar "bisect_right") {H : Hp} {l : Addr} {other cols : List Nat} {rows : List (List Nat)} {Φ : V → Hp → Prop} (hl : H l = some (.list (vN other))) (ho : other.length = 10) (hr : colRun other 10 (List.replicate 6 [], List.replicate 10 0) = some (rows, cols))
    (h : ∀ H' r, Ext H H' → H r = none → H' r = some (.list (vN cols)) → Φ (.ref r) H') : WC B (k + 2) (.ref a) [.ref l] H Φ := by
  obtain ⟨g1, g2, g3, g4, g5, g6, g7, g8⟩ := b
  have gm := gb.mg
  refine WC.def0 D ?_ (names := ["other", "rows", "columns", "place", "number", "k", "spot"]) (vs0 := [none, none, none, none, none, none, none]) (bs := [("other", .ref l)]) (binding_plain (names := ["other"]) rfl ?_) (by decide +kernel) (by with_unfolding_all rfl) ?_
  · walk_at "LK"
  · walk_at "B1"
  repeat walk_at "M"
  refine WSs.assignC [] ["k"] [none] ?_ (fun _ h => nomatch h) ?_ ?_
  · walk_at "CL"
  case refine_3 => walk_at "SW"
  refine WIt.rangeN 0 6 1 ?_
  repeat walk_at "M"
  intro r0 H1 n1 e1 f1
  refine ⟨r0, rfl, f1, by decide +kernel, by decide +kernel, comp_rows (n := 6) (by decide) rg6 (fun v => ⟨_, .head⟩) fun d as H2 e2 R2 n2 => ?_⟩
  repeat walk_at "M"
  refine ⟨by show 1 ≤ sizeLine; decide +kernel, fun r3 H3 n3 e3 f3 => ?_⟩
  repeat walk_at "M"
  refine list_mulN (n := 10) (.of f3) (by omega) fun r H4 n4 e4 f4 => ?_
  repeat walk_at "M"
  have x1 : Ext H H1 := e1
  have x4 : Ext H H4 := e1.trans (e2.trans (e3.trans e4))
  have nr : H r = none := (e1.trans (e2.trans e3)).new n4
  have R4 : Rows H H4 d as (List.replicate 6 []) := (R2.base x1).ext (e3.trans e4)
  have hrd : r ≠ d := Ne.symm (ne_of (e3 _ _ R2.top) n4)
  have hra : r ∉ as := fun hm => by
    obtain ⟨i, hi⟩ := List.mem_iff_getElem?.mp hm
    obtain ⟨_, _, hh⟩ := R2.rows i r hi
    have := e3 _ _ hh
    rw [n4] at this; cases this
  have hdn : H d = none := x1.new n2
  refine WSs.for (WIt.rangeN 9 (-1) (-1) ?_)
  repeat walk_at "M"
  refine call_range3N (by decide) (by decide +kernel) fun r5 H5 n5 e5 f5 => ?_
  have R5 := R4.ext e5
  have S5 : H5 r = some (.list (vN (List.replicate 10 0))) := by rw [e5 _ _ f4]; rfl
  have x5 := x4.trans e5
  clear e1 e2 e3 e4 x1 x4 n1 n2 n3 n4 R2 R4 f3 f4
  refine ⟨r5, rfl, f5, by decide +kernel, by decide +kernel, fun i vars H' => Ext H H' ∧ ∃ (rs : List (List Nat)) (cs : List Nat) (o1 o2 o3 o4 : Option V), colRun other (10 - i) (rs, cs) = some (rows, cols) ∧ rs.length = 6 ∧ cs.length = 10 ∧ Rows H H' d as rs ∧ H' r = some (.list (vN cs)) ∧ vars = [some (.ref l), some (.ref d), some (.ref r), o1, o2, o3, o4] ∧ ∀ j, (pile rs j).length ≤ i, ?_, ?_, ?_, ?_⟩
  · refine ⟨x5, _, _, none, none, none, none, hr, by simp, by simp, R5, S5, rfl, fun j => ?_⟩
    unfold pile; rw [List.getD_eq_getElem?_getD, List.getElem?_replicate]; split <;> exact Nat.le_refl _
  · exact fun _ _ _ _ => trivial
  · rintro i vars H' v H6 hi ⟨xE, rs, cs, o1, o2, o3, o4, hrun, hrl, hcl, R, S, rfl, hrs⟩ ⟨rfl, rfl⟩
    rw [rgDown] at hi
    obtain ⟨p, hp, hp9⟩ : ∃ p : Nat, 10 - i = p + 1 ∧ p = 9 - i := ⟨9 - i, by omega, rfl⟩
    have hpv : (9 + (i : Int) * -1) = (p : Int) := by omega
    rw [hpv]
    rw [hp, colRun] at hrun
    obtain ⟨st', hst, hrun⟩ := Option.bind_eq_some_iff.mp hrun
    have hcl' : st'.2.length = 10 := by rw [colStep_len hst]; exact hcl
    have hpi : 10 - (i + 1) = p := by omega
    obtain ⟨o, hov⟩ : ∃ o, other[p]? = some o := ⟨_, List.getElem?_eq_getElem (by omega)⟩
    have hod : other.getD p 0 = o := by rw [List.getD_eq_getElem?_getD, hov]; rfl
    have hrs' := colStep_rows hst hrs
    unfold colStep at hst
    rw [hod] at hst
    have L := xE _ _ hl
    repeat walk_at "M"
    refine item_nat L hov (by omega) ?_
    repeat walk_at "M"
    refine ⟨fun hc => ?_, fun hc => ?_⟩
    · have hlt : o < p := by simpa using hc
      rw [if_pos hlt] at hst
      obtain ⟨⟨rs', c⟩, hins, rfl⟩ := Option.map_eq_some_iff.mp hst
      have hrl' := insGo_len _ _ _ _ _ hins
      obtain ⟨q0, q10⟩ := insGo_guard hins
      dsimp only at q0 q10
      repeat walk_at "M"
      refine item_nat L hov (by omega) ?_
      repeat walk_at "M"
      refine Rows.item (κ := 0) R q0 (by omega) fun a0 ha0 hA0 => ?_
      repeat walk_at "M"
      refine ⟨DefAt.callee gb.df.choose_spec.choose_spec.1 _, fun _ i => ?_⟩
      cases i
      refine br_ok gb hA0 (by omega) ?_
      repeat walk_at "M"
      refine WSs.while (fun m vars H' => Ext H H' ∧ ∃ (rs1 : List (List Nat)) (κ n : Nat), insGo m rs1 κ n = some (rs', c) ∧ rs1.length = 6 ∧ Rows H H' d as rs1 ∧ H' r = some (.list (vN cs)) ∧ vars = [some (.ref l), some (.ref d), some (.ref r), some (.int p), some (.int n), some (.int κ), some (.int (bisR (pile rs1 κ) n : Nat))]) 7 ?_ ?_
      · exact ⟨xE, rs, 0, o, hins, hrl, R, S, rfl⟩
      rintro m vars H7 ⟨xE, rs1, κ, n, hins, hrl, R, S, rfl⟩
      obtain ⟨hκ, hκ10⟩ := insGo_guard hins
      cases m with
      | zero => simp [insGo] at hins
      | succ m =>
      rw [insGo, if_pos ⟨hκ, hκ10⟩] at hins
      repeat walk_at "M"
      refine Rows.item R hκ (by omega) fun a1 ha1 hA1 => ?_
      repeat walk_at "M"
      refine len_nat hA1 (by omega) ?_
      repeat walk_at "M"
      refine ⟨fun hc => ?_, fun hc => ?_⟩
      · have hsp : bisR (pile rs1 κ) n < (pile rs1 κ).length := by simpa using hc
        rw [if_pos hsp] at hins
        obtain ⟨g1', g2'⟩ := insGo_guard hins
        refine WSs.assignT ?_ (hw := by intro env h; obtain ⟨⟩ := env; cases h; rfl)
        repeat walk_at "M"
        refine Rows.item R hκ (by omega) fun a1 ha1 hA1 => ?_
        repeat walk_at "M"
        refine item_nat hA1 (getD_at hsp) (by omega) ?_
        repeat walk_at "M"
        refine ⟨by show 2 ≤ sizeLine; decide +kernel, fun t H8 n8 e8 f8 => ?_⟩
        have R8 := R.ext e8
        have S8 := e8 _ _ S
        have hA8 := e8 _ _ hA1
        have xE8 := xE.trans e8
        refine WA.tup f8 ?_
        repeat walk_at "M"
        refine Rows.item R8 hκ (by omega) fun a2 ha2 hA2 => ?_
        repeat walk_at "M"
        refine set_nat hA2 hsp (by omega) ?_
        have R9 := R8.set ha2 ((pile rs1 κ).set (bisR (pile rs1 κ) n) n)
        have hm : a2 ∈ as := List.mem_of_getElem? ha2
        have S9 : put H8 a2 (.list (vN ((pile rs1 κ).set (bisR (pile rs1 κ) n) n))) r = some (.list (vN cs)) := by rw [put_ne _ _ (by rintro rfl; exact hra hm)]; exact S8
        have xE9 : Ext H (put H8 a2 (.list (vN ((pile rs1 κ).set (bisR (pile rs1 κ) n) n)))) := xE8.put _ (R8.new _ hm)
        generalize put H8 a2 (.list (vN ((pile rs1 κ).set (bisR (pile rs1 κ) n) n))) = H9 at R9 S9 xE9
        repeat walk_at "M"
        refine Rows.item (κ := κ + 1) R9 g1' (by simp; omega) fun a3 ha3 hA3 => ?_
        repeat walk_at "M"
        refine ⟨DefAt.callee gb.df.choose_spec.choose_spec.1 _, fun _ i => ?_⟩
        cases i
        refine br_ok gb hA3 (by omega) ?_
        repeat walk_at "M"
        exact ⟨m, by omega, xE9, _, κ + 1, _, hins, by simpa using hrl, R9, S9, rfl⟩
      · have hsp : ¬ bisR (pile rs1 κ) n < (pile rs1 κ).length := by simpa using hc
        rw [if_neg hsp] at hins
        cases hins
        repeat walk_at "M"
        refine Rows.item R hκ (by omega) fun a1 ha1 hA1 => ?_
        repeat walk_at "M"
        refine len_nat hA1 (by omega) ?_
        repeat walk_at "M"
        refine set_nat S (by omega) (by omega) ?_
        have R9 := R.ne hra hrd (.list (vN (cs.set p (pile rs1 κ).length)))
        have S9 : put H7 r (.list (vN (cs.set p (pile rs1 κ).length))) r = some (.list (vN (cs.set p (pile rs1 κ).length))) := put_self _ _ _
        have xE9 : Ext H (put H7 r (.list (vN (cs.set p (pile rs1 κ).length)))) := xE.put _ nr
        generalize put H7 r (.list (vN (cs.set p (pile rs1 κ).length))) = H9 at R9 S9 xE9
        repeat walk_at "M"
        refine Rows.item R9 hκ (by omega) fun a2 ha2 hA2 => ?_
        refine ⟨mty_list hA2, ?_⟩
        repeat walk_at "M"
        refine append_nat hA2 (by omega) ⟨rfl, ?_⟩
        have hm : a2 ∈ as := List.mem_of_getElem? ha2
        repeat walk_at "M"
        exact ⟨xE9.put _ (R9.new _ hm), _, _, _, _, _, _, by rw [hpi]; exact hrun, by simpa using hrl, by simpa using hcl, R9.set ha2 _, by rw [put_ne _ _ (by rintro rfl; exact hra hm)]; exact S9, rfl, hrs'⟩
    · have hlt : ¬ o < p := by simpa using hc
      rw [if_neg hlt] at hst
      obtain ⟨κ, hκl, hst⟩ := Option.bind_eq_some_iff.mp hst
      split at hst
      case isFalse => cases hst
      rename_i hκ10
      cases hst
      dsimp only at hκ10
      obtain ⟨k1, k2, k3⟩ := lastAt_some hκl
      dsimp only at k1 k2 k3
      have hpl : ∀ j, (pile rs j).drop ((pile rs j).length - 1) = [] ∨ ∃ z, (pile rs j).drop ((pile rs j).length - 1) = [z] := fun j => by
        have : ((pile rs j).drop ((pile rs j).length - 1)).length ≤ 1 := by rw [List.length_drop]; omega
        match h : (pile rs j).drop ((pile rs j).length - 1) with
        | [] => exact .inl rfl
        | [z] => exact .inr ⟨z, rfl⟩
        | _ :: _ :: _ => rw [h] at this; simp at this
      repeat walk_at "M"
      refine WE.comp [] ["row"] [none] ?_ (fun _ h => nomatch h) ?_
      · walk_at "CL"
      refine WIt.list ?_
      repeat walk_at "M"
      refine ⟨_, _, rfl, R.top, CompOk.new (fun i out H' => Ext H6 H' ∧ ∃ bs : List Addr, out = bs.map V.ref ∧ bs.length = i ∧ ∀ (j : Nat) b, bs[j]? = some b → H' b = some (.list (vN ((pile rs j).drop ((pile rs j).length - 1))))) ?_ ⟨Ext.refl _, [], rfl, rfl, fun _ _ h => by simp at h⟩ (fun _ _ _ h => h.1 _ _ R.top) ?_ ?_⟩
      · rw [List.length_map, R.len, hrl]; decide +kernel
      · rintro j out H' v H8 hj ⟨xj, bs, rfl, hbl, hb⟩ ⟨hit, rfl⟩
        rw [List.getElem?_map, Option.map_eq_some_iff] at hit
        obtain ⟨a1, ha1, rfl⟩ := hit
        have hj6 : j < rs.length := by rw [← R.len]; exact (List.getElem?_eq_some_iff.mp ha1).1
        obtain ⟨a2, ha2, hA2⟩ := R.get hj6
        rw [ha1] at ha2; cases ha2
        have hA := xj _ _ hA2
        repeat walk_at "M"
        refine sl_lastN (.of hA) ?_ fun z H9 n9 e9 f9 => ⟨xj.trans e9, bs ++ [z], by simp, by simp [hbl], fun q b hq => ?_⟩
        · have : (vN (pile rs j)).length ≤ 1000 := by
            rw [List.length_map]; have := hrs j; omega
          exact Nat.le_trans this (by decide +kernel)
        · rw [List.getElem?_append] at hq
          split at hq
          · exact e9 _ _ (hb q b hq)
          · have hqj : q = j := by
              have := (List.getElem?_eq_some_iff.mp hq).1
              rw [List.length_singleton] at this; omega
            subst hqj
            rw [hbl, Nat.sub_self] at hq
            cases hq
            rw [f9]; simp [vN]
      rintro out H7 z H8 ⟨x7, bs, rfl, hbl, hb⟩ n8 e8 f8
      rw [List.length_map, R.len, hrl] at hbl
      repeat walk_at "M"
      refine ⟨mty_list f8, ?_⟩
      repeat walk_at "M"
      refine ⟨by show 1 ≤ sizeLine; decide +kernel, fun y H9 n9 e9 f9 => ?_⟩
      repeat walk_at "M"
      have x9 := x7.trans (e8.trans e9)
      have fy : H9 y = some (.list (vI [(p : Int)])) := f9
      refine call_index (nss := rs.map fun q => (q.drop (q.length - 1)).map Int.ofNat) (ns := [(p : Int)]) (m := κ) (e9 _ _ f8) (.of fy) (fun j c hj => ?_) (fun hm => ?_) (by omega) ?_ (by omega) (fun j hj => ?_) ?_
      · have hjl := (List.getElem?_eq_some_iff.mp hj).1
        have hjr : j < rs.length := by omega
        have hpj : pile rs j = rs[j] := by unfold pile; rw [List.getD_eq_getElem?_getD, List.getElem?_eq_getElem hjr]; rfl
        refine ⟨((pile rs j).drop ((pile rs j).length - 1)).map Int.ofNat, ?_, .of ?_⟩
        · rw [List.getElem?_map, List.getElem?_eq_getElem hjr, hpj]; rfl
        · rw [(e8.trans e9) _ _ (hb j c hj), vN_vI]
      · obtain ⟨j, hj⟩ := List.mem_iff_getElem?.mp hm
        have := e8 _ _ (hb j y hj)
        rw [n9] at this; cases this
      · have hpk : pile rs κ = rs[κ] := by unfold pile; rw [List.getD_eq_getElem?_getD, List.getElem?_eq_getElem k1]; rfl
        rw [List.getElem?_map, List.getElem?_eq_getElem k1, ← hpk]
        show some (((pile rs κ).drop ((pile rs κ).length - 1)).map Int.ofNat) = _
        rw [k2]; rfl
      · intro hq
        have hjr : j < rs.length := by omega
        have hpj : pile rs j = rs[j] := by unfold pile; rw [List.getD_eq_getElem?_getD, List.getElem?_eq_getElem hjr]; rfl
        rw [List.getElem?_map, List.getElem?_eq_getElem hjr, ← hpj] at hq
        have hq' : ((pile rs j).drop ((pile rs j).length - 1)).map Int.ofNat = [(p : Int)] := Option.some.inj hq
        rcases hpl j with h0 | ⟨z', h0⟩
        · rw [h0] at hq'; cases hq'
        · rw [h0] at hq'
          have : (z' : Int) = (p : Int) := by
            have := List.head_eq_of_cons_eq hq'
            exact this
          exact k3 j hj (by rw [h0]; congr 1; omega)
      refine WSt.loc (by walk_at "AT") ?_
      refine WSs.exprAny ?_
      have R9 := R.ext x9
      have S9 := x9 _ _ S
      have xE9 := xE.trans x9
      have hne : pile rs κ ≠ [] := by intro e; rw [e] at k2; simp at k2
      have hcat : pile rs κ = (pile rs κ).dropLast ++ [(pile rs κ).getLast hne] := (List.dropLast_concat_getLast hne).symm
      repeat walk_at "M"
      refine Rows.item R9 k1 (by omega) fun a2 ha2 hA2 => ?_
      refine ⟨mty_list hA2, ?_⟩
      repeat walk_at "M"
      refine pop_nat (ns := (pile rs κ).dropLast) (by rw [← hcat]; exact hA2) (by rw [List.length_dropLast]; omega) ?_
      have hm : a2 ∈ as := List.mem_of_getElem? ha2
      have R10 := R9.set ha2 (pile rs κ).dropLast
      have S10 : put H9 a2 (.list (vN (pile rs κ).dropLast)) r = some (.list (vN cs)) := by rw [put_ne _ _ (by rintro rfl; exact hra hm)]; exact S9
      have xE10 : Ext H (put H9 a2 (.list (vN (pile rs κ).dropLast))) := xE9.put _ (R9.new _ hm)
      generalize put H9 a2 (.list (vN (pile rs κ).dropLast)) = H10 at R10 S10 xE10
      repeat walk_at "M"
      refine Rows.item (κ := κ) R10 (by simpa using k1) (by simp; omega) fun a3 ha3 hA3 => ?_
      rw [pile_of_set k1] at hA3
      repeat walk_at "M"
      refine len_nat hA3 (by rw [List.length_dropLast]; omega) ?_
      repeat walk_at "M"
      refine set_nat S10 (by omega) (by omega) ?_
      repeat walk_at "M"
      exact ⟨xE10.put _ nr, _, _, _, _, _, _, by rw [hpi]; exact hrun, by simpa using hrl, by simpa using hcl, R10.ne hra hrd _, put_self _ _ _, rfl, hrs'⟩
  · rintro vars H' ⟨xE, rs, cs, o1, o2, o3, o4, hrun, hrl, hcl, R, S, rfl, _⟩
    rw [rgDown] at hrun
    cases hrun
    repeat walk_at "M"
    exact h _ _ xE nr S
end
section
theorem two_of {α : Type} : ∀ {l : List α}, l.length = 2 → ∃ a b, l = [a, b]
  | [a, b], _ => ⟨a, b, rfl⟩
theorem driveUp_len : ∀ (k : Nat) (rows : List (List Nat)) (n : Nat) (q : List (List Nat) × Nat), driveUp k rows n = some q → q.1.length = rows.length
  | 0, _, _, _, h => by cases h; rfl
  | k + 1, rows, n, q, h => by
    rw [driveUp] at h
    split at h
    · have := driveUp_len k _ _ _ h; simpa using this
    · cases h
theorem exc_ok {B : Base} {k a al : Nat} (D : Def1 B 64 a .none .none) (b : Blt B) (gb : Bis B 2 al "bisect_left") {H : Hp} {l lc : Addr} {other cols made : List Nat} {rows : List (List Nat)} {Φ : V → Hp → Prop} (hl : H l = some (.list (vN other))) (hlc : H lc = some (.list (vN cols))) (ho : other.length = 10) (hco : cols.length = 10)
    (hr : excRun other cols 10 0 (List.replicate 6 [], List.replicate 10 0) = some (rows, made))
    (h : ∀ H' r, Ext H H' → H r = none → H' r = some (.list (vN made)) → Φ (.ref r) H') : WC B (k + 2) (.ref a) [.ref l, .ref lc] H Φ := by
  obtain ⟨g1, g2, g3, g4, g5, g6, g7, g8⟩ := b
  have gm := gb.mg
  refine WC.def0 D ?_ (names := ["other", "columns", "rows", "made", "place", "k", "number", "spot"]) (vs0 := [none, none, none, none, none, none, none, none]) (bs := [("other", .ref l), ("columns", .ref lc)]) (binding_plain (names := ["other", "columns"]) rfl ?_) (by decide +kernel) (by with_unfolding_all rfl) ?_
  · walk_at "LK"
  · intro vals hv fd hp hd hk
    obtain ⟨v, u, e⟩ := two_of hv
    subst e
    unfold bindArgs
    rw [hp, hd]
    rfl
  repeat walk_at "M"
  refine WSs.assignC [] ["k"] [none] ?_ (fun _ h => nomatch h) ?_ ?_
  · walk_at "CL"
  case refine_3 => walk_at "SW"
  refine WIt.rangeN 0 6 1 ?_
  repeat walk_at "M"
  intro r0 H1 n1 e1 f1
  refine ⟨r0, rfl, f1, by decide +kernel, by decide +kernel, comp_rows (n := 6) (by decide) rg6 (fun v => ⟨_, .head⟩) fun d as H2 e2 R2 n2 => ?_⟩
  repeat walk_at "M"
  refine ⟨by show 1 ≤ sizeLine; decide +kernel, fun r3 H3 n3 e3 f3 => ?_⟩
  repeat walk_at "M"
  refine list_mulN (n := 10) (.of f3) (by omega) fun r H4 n4 e4 f4 => ?_
  repeat walk_at "M"
  have x1 : Ext H H1 := e1
  have x4 : Ext H H4 := e1.trans (e2.trans (e3.trans e4))
  have nr : H r = none := (e1.trans (e2.trans e3)).new n4
  have R4 : Rows H H4 d as (List.replicate 6 []) := (R2.base x1).ext (e3.trans e4)
  have hrd : r ≠ d := Ne.symm (ne_of (e3 _ _ R2.top) n4)
  have hra : r ∉ as := fun hm => by
    obtain ⟨i, hi⟩ := List.mem_iff_getElem?.mp hm
    obtain ⟨_, _, hh⟩ := R2.rows i r hi
    have := e3 _ _ hh
    rw [n4] at this; cases this
  refine WSs.for (WIt.rangeN 0 10 1 ?_)
  repeat walk_at "M"
  intro r5 H5 n5 e5 f5
  have R5 := R4.ext e5
  have S5 : H5 r = some (.list (vN (List.replicate 10 0))) := by rw [e5 _ _ f4]; rfl
  have x5 := x4.trans e5
  clear e1 e2 e3 e4 x1 x4 n1 n2 n3 n4 R2 R4 f3 f4
  refine ⟨r5, rfl, f5, by decide +kernel, by decide +kernel, fun i vars H' => Ext H H' ∧ ∃ (rs : List (List Nat)) (cs : List Nat) (o1 o2 o3 o4 : Option V), excRun other cols (10 - i) i (rs, cs) = some (rows, made) ∧ rs.length = 6 ∧ cs.length = 10 ∧ Rows H H' d as rs ∧ H' r = some (.list (vN cs)) ∧ vars = [some (.ref l), some (.ref lc), some (.ref d), some (.ref r), o1, o2, o3, o4], ?_, ?_, ?_, ?_⟩
  · exact ⟨x5, _, _, none, none, none, none, hr, by simp, by simp, R5, S5, rfl⟩
  · exact fun _ _ _ _ => trivial
  · rintro p vars H' v H6 hi ⟨xE, rs, cs, o1, o2, o3, o4, hrun, hrl, hcl, R, S, rfl⟩ ⟨rfl, rfl⟩
    rw [rg10] at hi
    simp only [Int.zero_add, Int.mul_one]
    obtain ⟨n, hn⟩ : ∃ n, 10 - p = n + 1 := ⟨9 - p, by omega⟩
    have hpi : 10 - (p + 1) = n := by omega
    rw [hn, excRun] at hrun
    obtain ⟨st', hst, hrun⟩ := Option.bind_eq_some_iff.mp hrun
    obtain ⟨o, hov⟩ : ∃ o, other[p]? = some o := ⟨_, List.getElem?_eq_getElem (by omega)⟩
    have hod : other.getD p 0 = o := by rw [List.getD_eq_getElem?_getD, hov]; rfl
    obtain ⟨κ, hkv⟩ : ∃ o, cols[p]? = some o := ⟨_, List.getElem?_eq_getElem (by omega)⟩
    have hkd : cols.getD p 0 = κ := by rw [List.getD_eq_getElem?_getD, hkv]; rfl
    unfold excStep at hst
    rw [hod, hkd] at hst
    split at hst
    case isFalse => cases hst
    rename_i hg
    obtain ⟨hκ, hκ10⟩ := hg
    dsimp only at hκ hκ10
    have L := xE _ _ hl
    have LC := xE _ _ hlc
    repeat walk_at "M"
    refine item_nat LC hkv (by omega) ?_
    repeat walk_at "M"
    refine item_nat L hov (by omega) ?_
    repeat walk_at "M"
    refine ⟨fun hc => ?_, fun hc => ?_⟩
    · have hlt : o > p := by simpa using hc
      rw [if_pos hlt] at hst
      cases hst
      repeat walk_at "M"
      refine Rows.item R hκ (by omega) fun a1 ha1 hA1 => ?_
      refine ⟨mty_list hA1, ?_⟩
      repeat walk_at "M"
      refine append_nat hA1 (by omega) ⟨rfl, ?_⟩
      have hm : a1 ∈ as := List.mem_of_getElem? ha1
      repeat walk_at "M"
      exact ⟨xE.put _ (R.new _ hm), _, _, _, _, _, _, by rw [hpi]; exact hrun, by simpa using hrl, hcl, R.set ha1 _, by rw [put_ne _ _ (by rintro rfl; exact hra hm)]; exact S, rfl⟩
    · have hlt : ¬ o > p := by simpa using hc
      rw [if_neg hlt] at hst
      obtain ⟨z, hz, hst⟩ := Option.bind_eq_some_iff.mp hst
      obtain ⟨⟨rs', n'⟩, hdr, hst⟩ := Option.bind_eq_some_iff.mp hst
      split at hst
      case isFalse => cases hst
      rename_i hn10
      cases hst
      dsimp only at hz hdr hn10 hrun
      have hcat : pile rs κ = (pile rs κ).dropLast ++ [z] := by
        obtain ⟨ys, hys⟩ := List.getLast?_eq_some_iff.mp hz
        rw [hys]; simp
      have hrl' := driveUp_len _ _ _ _ hdr
      rw [List.length_set] at hrl'
      repeat walk_at "M"
      refine Rows.item R hκ (by omega) fun a1 ha1 hA1 => ?_
      refine ⟨mty_list hA1, ?_⟩
      repeat walk_at "M"
      refine pop_nat (ns := (pile rs κ).dropLast) (n := z) (by rw [← hcat]; exact hA1) (by rw [List.length_dropLast]; omega) ?_
      have hm : a1 ∈ as := List.mem_of_getElem? ha1
      have R7 := R.set ha1 (pile rs κ).dropLast
      have S7 : put H6 a1 (.list (vN (pile rs κ).dropLast)) r = some (.list (vN cs)) := by rw [put_ne _ _ (by rintro rfl; exact hra hm)]; exact S
      have xE7 : Ext H (put H6 a1 (.list (vN (pile rs κ).dropLast))) := xE.put _ (R.new _ hm)
      generalize put H6 a1 (.list (vN (pile rs κ).dropLast)) = H7 at R7 S7 xE7
      repeat walk_at "M"
      refine WSs.while (fun m vars H' => Ext H H' ∧ ∃ (rs1 : List (List Nat)) (κ1 n1 : Nat) (q : Option V), κ1 ≤ m ∧ driveUp κ1 rs1 n1 = some (rs', n') ∧ rs1.length = 6 ∧ Rows H H' d as rs1 ∧ H' r = some (.list (vN cs)) ∧ vars = [some (.ref l), some (.ref lc), some (.ref d), some (.ref r), some (.int p), some (.int κ1), some (.int n1), q]) κ ?_ ?_
      · exact ⟨xE7, _, κ, z, _, Nat.le_refl _, hdr, by simpa using hrl, R7, S7, rfl⟩
      rintro m vars H8 ⟨xE8, rs1, κ1, n1, q, hkm, hdr, hrl1, R8, S8, rfl⟩
      repeat walk_at "M"
      refine ⟨fun hc => ?_, fun hc => ?_⟩
      · have hk0 : 0 < κ1 := by simpa using hc
        obtain ⟨κ2, rfl⟩ : ∃ κ2, κ1 = κ2 + 1 := ⟨κ1 - 1, by omega⟩
        rw [driveUp] at hdr
        split at hdr
        case isFalse => cases hdr
        rename_i hg
        obtain ⟨d1, d2, d3, d4⟩ := hg
        repeat walk_at "M"
        rw [show ((κ2 + 1 : Nat) : Int) - 1 = (κ2 : Nat) by omega]
        refine Rows.item R8 d1 (by omega) fun a2 ha2 hA2 => ?_
        repeat walk_at "M"
        refine ⟨DefAt.callee gb.df.choose_spec.choose_spec.1 _, fun _ i => ?_⟩
        cases i
        refine bl_ok gb hA2 (by omega) ?_
        repeat walk_at "M"
        rw [show ((bisL (pile rs1 κ2) n1 : Nat) : Int) - 1 = ((bisL (pile rs1 κ2) n1 - 1 : Nat) : Int) by omega]
        refine WSs.assignT ?_ (hw := by intro env h; obtain ⟨⟩ := env; cases h; rfl)
        have hsp : bisL (pile rs1 κ2) n1 - 1 < (pile rs1 κ2).length := by omega
        generalize bisL (pile rs1 κ2) n1 - 1 = sp at hdr hsp
        repeat walk_at "M"
        refine Rows.item R8 d1 (by omega) fun a2 ha2 hA2 => ?_
        repeat walk_at "M"
        refine item_nat hA2 (getD_at hsp) (by omega) ?_
        repeat walk_at "M"
        refine ⟨by show 2 ≤ sizeLine; decide +kernel, fun t H9 n9 e9 f9 => ?_⟩
        have R9 := R8.ext e9
        have S9 := e9 _ _ S8
        have xE9 := xE8.trans e9
        refine WA.tup f9 ?_
        repeat walk_at "M"
        refine Rows.item R9 d1 (by omega) fun a3 ha3 hA3 => ?_
        repeat walk_at "M"
        refine set_nat hA3 hsp (by omega) ?_
        have R10 := R9.set ha3 ((pile rs1 κ2).set sp n1)
        have hm3 : a3 ∈ as := List.mem_of_getElem? ha3
        have S10 : put H9 a3 (.list (vN ((pile rs1 κ2).set sp n1))) r = some (.list (vN cs)) := by rw [put_ne _ _ (by rintro rfl; exact hra hm3)]; exact S9
        have xE10 : Ext H (put H9 a3 (.list (vN ((pile rs1 κ2).set sp n1)))) := xE9.put _ (R9.new _ hm3)
        generalize put H9 a3 (.list (vN ((pile rs1 κ2).set sp n1))) = H10 at R10 S10 xE10
        repeat walk_at "M"
        exact ⟨m - 1, by omega, xE10, _, κ2, _, _, by omega, hdr, by simpa using hrl1, R10, S10, rfl⟩
      · have hk0 : κ1 = 0 := by
          have : ¬ (κ1 : Int) > 0 := by simpa using hc
          omega
        subst hk0
        cases hdr
        repeat walk_at "M"
        refine set_nat S8 (by omega) (by omega) ?_
        have S9 : put H8 r (.list (vN (cs.set p n'))) r = some (.list (vN (cs.set p n'))) := put_self _ _ _
        have R9 := R8.ne hra hrd (.list (vN (cs.set p n')))
        have xE9 : Ext H (put H8 r (.list (vN (cs.set p n')))) := xE8.put _ nr
        generalize put H8 r (.list (vN (cs.set p n'))) = H9 at R9 S9 xE9
        repeat walk_at "M"
        refine set_nat S9 (by simp; omega) (by simp; omega) ?_
        repeat walk_at "M"
        exact ⟨xE9.put _ nr, _, _, _, _, _, _, by rw [hpi]; exact hrun, by omega, by simpa using hcl, R9.ne hra hrd _, put_self _ _ _, rfl⟩
  · rintro vars H' ⟨xE, rs, cs, o1, o2, o3, o4, hrun, hrl, hcl, R, S, rfl⟩
    rw [rg10] at hrun
    cases hrun
    repeat walk_at "M"
    exact h _ _ xE nr S
end
section
/-! cells -/
structure Cels (H0 H : Hp) (cs : List Addr) (ws : List (Option V)) : Prop where
  nd : cs.Nodup
  new : ∀ c ∈ cs, H0 c = none
  val : ∀ (i : Nat) c, cs[i]? = some c → ∃ w, ws[i]? = some w ∧ H c = some (.cell w)
theorem Cels.get {H0 H : Hp} {cs : List Addr} {ws : List (Option V)} (C : Cels H0 H cs ws) {i : Nat} {c : Addr} {w : Option V} (h1 : cs[i]? = some c) (h2 : ws[i]? = some w) : H c = some (.cell w) := by
  obtain ⟨w', a, b⟩ := C.val i c h1
  rw [h2] at a; cases a; exact b
theorem Cels.ext {H0 H H' : Hp} {cs : List Addr} {ws : List (Option V)} (C : Cels H0 H cs ws) (x : Ext H H') : Cels H0 H' cs ws := ⟨C.nd, C.new, fun i c h => let ⟨w, a, b⟩ := C.val i c h; ⟨w, a, x _ _ b⟩⟩
theorem Cels.notin {H0 H : Hp} {cs : List Addr} {ws : List (Option V)} (C : Cels H0 H cs ws) {b : Addr} {xs : List V} (h : H b = some (.list xs)) : b ∉ cs := fun hm => by
  obtain ⟨i, hi⟩ := List.mem_iff_getElem?.mp hm
  obtain ⟨w, _, e⟩ := C.val i b hi
  rw [h] at e; cases e
theorem Cels.set {H0 H : Hp} {cs : List Addr} {ws : List (Option V)} (C : Cels H0 H cs ws) {i : Nat} {c : Addr} (h : cs[i]? = some c) (v : V) : Cels H0 (put H c (.cell (some v))) cs (ws.set i (some v)) := by
  refine ⟨C.nd, C.new, fun j d hd => ?_⟩
  obtain ⟨w, a, b⟩ := C.val j d hd
  by_cases e : j = i
  · subst e
    rw [h] at hd; cases hd
    exact ⟨some v, by rw [List.getElem?_set_self (List.getElem?_eq_some_iff.mp a).1], put_self _ _ _⟩
  · exact ⟨w, by rw [List.getElem?_set_ne (Ne.symm e)]; exact a, by rw [put_ne _ _ (by rintro rfl; exact e (nodup_get C.nd hd h))]; exact b⟩
theorem Cels.ne {H0 H : Hp} {cs : List Addr} {ws : List (Option V)} (C : Cels H0 H cs ws) {b : Addr} (hb : b ∉ cs) (o : O) : Cels H0 (put H b o) cs ws :=
  ⟨C.nd, C.new, fun i c h => let ⟨w, a, e⟩ := C.val i c h; ⟨w, a, by rw [put_ne _ _ (by rintro rfl; exact hb (List.mem_of_getElem? h))]; exact e⟩⟩
theorem Cels.start {H0 H : Hp} {cs : List Addr} (nd : cs.Nodup) (n : ∀ c ∈ cs, H0 c = none) (h : ∀ c ∈ cs, H c = some (.cell none)) : Cels H0 H cs (List.replicate cs.length none) :=
  ⟨nd, n, fun i c hc => ⟨none, by rw [List.getElem?_replicate, if_pos (List.getElem?_eq_some_iff.mp hc).1], h c (List.mem_of_getElem? hc)⟩⟩
/-- a list kept while a cell is set -/
theorem Cels.keep {H0 H : Hp} {cs : List Addr} {ws : List (Option V)} (C : Cels H0 H cs ws) {c b : Addr} {o : O} {xs : List V} (hc : c ∈ cs) (h : H b = some (.list xs)) : put H c o b = some (.list xs) := by
  rw [put_ne _ _ (by rintro rfl; exact C.notin h hc)]; exact h

/-! the greatest -/
theorem foldl_max : ∀ (l : List Nat) (a : Nat), a ≤ l.foldl Nat.max a ∧ (∀ x ∈ l, x ≤ l.foldl Nat.max a) ∧ (l.foldl Nat.max a = a ∨ l.foldl Nat.max a ∈ l)
  | [], a => ⟨Nat.le_refl _, (fun _ h => nomatch h), .inl rfl⟩
  | b :: r, a => by
    obtain ⟨h1, h2, h3⟩ := foldl_max r (Nat.max a b)
    rw [List.foldl_cons]
    have ha : a ≤ Nat.max a b := Nat.le_max_left a b
    have hb : b ≤ Nat.max a b := Nat.le_max_right a b
    refine ⟨Nat.le_trans ha h1, fun x hx => ?_, ?_⟩
    · rcases List.mem_cons.mp hx with rfl | hx
      · exact Nat.le_trans hb h1
      · exact h2 x hx
    · rcases h3 with h3 | h3
      · rw [h3]
        rcases Nat.le_total a b with h | h
        · right; rw [show Nat.max a b = b from Nat.max_eq_right h]; exact List.mem_cons_self
        · left; exact Nat.max_eq_left h
      · exact .inr (List.mem_cons_of_mem _ h3)
theorem max_nat {B : Base} {k : Nat} {H : Hp} {a : Addr} {rest : List Nat} {Φ : V → Hp → Prop} (hl : H a = some (.list (vN (0 :: rest)))) (h : Φ (.int ((mx rest : Nat) : Int)) H) : WC B k (.builtin "max") [.ref a] H Φ := by
  refine call_max (ns := (0 :: rest).map Int.ofNat) (.of (by rw [hl, vN_vI])) (by simp) fun m hm hmax => ?_
  obtain ⟨n, hn, rfl⟩ := List.mem_map.mp hm
  obtain ⟨h1, h2, h3⟩ := foldl_max rest 0
  have e1 : n ≤ mx rest := by
    rcases List.mem_cons.mp hn with rfl | hn
    · exact h1
    · exact h2 n hn
  have hmem : mx rest ∈ 0 :: rest := by
    rcases h3 with h3 | h3
    · have : mx rest = 0 := h3
      rw [this]; exact List.mem_cons_self
    · exact List.mem_cons_of_mem _ h3
  have e2 : (Int.ofNat (mx rest)) ≤ Int.ofNat n := hmax _ (List.mem_map.mpr ⟨_, hmem, rfl⟩)
  have e3 : mx rest ≤ n := Int.ofNat_le.mp e2
  have : n = mx rest := by omega
  rw [this]; exact h
theorem rg_up (n : Nat) : rgCount 0 n 1 = n := by
  unfold rgCount
  rw [rangeSize_one]
  split <;> omega
theorem rg_small {n : Nat} (h : n ≤ 1000) : Builtin.Range.small 0 n 1 = true := small_one (by omega) (by omega) (by omega) (by omega)
theorem rg_pos (n : Nat) : 0 ≤ Builtin.Range.rangeSize 0 n 1 := by
  rw [rangeSize_one]
  split <;> omega
theorem chain_succ (lt : Nat → Nat → Bool) (ends : List Nat) (k : Nat) : chain lt ends (k + 1) = chainStep lt ends (chain lt ends k) k := by
  unfold chain
  rw [List.range_succ, List.foldl_append]; rfl
theorem chain_length (lt : Nat → Nat → Bool) (ends : List Nat) : ∀ k, (chain lt ends k).length = k
  | 0 => rfl
  | k + 1 => by rw [chain_succ, chainStep, List.length_append, chain_length lt ends k]; rfl
theorem endsOf_length (other : List Nat) (gap : Nat) : (endsOf other gap).length ≤ gap := by
  unfold endsOf
  refine Nat.le_trans (List.length_filter_le _ _) ?_
  rw [List.length_map, List.length_range]; exact Nat.le_refl _
/-- the lesser ones' heights, by a comprehension -/
theorem comp_chain {B : Base} {k i : Nat} {F' : FI} {lt : Nat → Nat → Bool} {op : CmpOp} {e r : Addr} {xe xr xk : Str} {p1 p2 p3 p4 p5 p6 p7 p8 p9 q0 q1 : Pos} {jn : Str} {ends rl : List Nat} {Ψ : Addr → Hp → Prop} {H1 : Hp} (hi : i < ends.length) (hr : rl.length = i) (hn : ends.length ≤ 1000)
    (hnm : F'.names = [jn])
    (he : H1 e = some (.list (vN ends))) (hrr : H1 r = some (.list (vN rl)))
    (ge : ∀ v (Φ : V → Hp → Prop), Φ (.ref e) H1 → WE B k F' (.Name xe p1) v H1 Φ) (ge' : ∀ v (Φ : V → Hp → Prop), Φ (.ref e) H1 → WE B k F' (.Name xe p2) v H1 Φ) (gr : ∀ v (Φ : V → Hp → Prop), Φ (.ref r) H1 → WE B k F' (.Name xr p3) v H1 Φ) (gk : ∀ v (Φ : V → Hp → Prop), Φ (.int i) H1 → WE B k F' (.Name xk p4) v H1 Φ)
    (hop : ∀ (a b : Nat) (Φ : V → Hp → Prop), Φ (.bool (lt a b)) H1 → WCmp B k op (.int a) (.int b) H1 Φ) (hm : behindInMarks op (.Subscript (.Name xe p2) (.Name xk p4) q1) = false) (hd : (jn == ("__debug__" : Str)) = false)
    (hΨ : ∀ d H', Ext H1 H' → H1 d = none → H' d = some (.list (vN (((List.range i).filter fun j => lt (ends.getD j 0) (ends.getD i 0)).map fun j => rl.getD j 0))) → Ψ d H') :
    CompOk B k F' [none] (.Subscript (.Name xr p3) (.Name jn p5) p6) (.Name jn p7) [.Compare (.Subscript (.Name xe p1) (.Name jn p8) p9) [op] [.Subscript (.Name xe p2) (.Name xk p4) q1] q0] Ψ (rgCount 0 i 1) (fun _ => True) (fun t H v H' => v = .int (0 + t * 1) ∧ H' = H) H1 := by
  refine CompOk.new (fun t out H' => H' = H1 ∧ out = vN (((List.range t).filter fun j => lt (ends.getD j 0) (ends.getD i 0)).map fun j => rl.getD j 0)) ?_ ⟨rfl, rfl⟩ (fun _ _ _ _ => trivial) ?_ ?_
  · rw [rg_up]; exact Nat.le_trans (by omega : i ≤ 1000) (by decide +kernel)
  · rintro t out H v H2 ht ⟨rfl, rfl⟩ ⟨rfl, rfl⟩
    rw [rg_up] at ht
    simp only [Int.zero_add, Int.mul_one]
    refine WA.name (WSt.loc (us := [some (.int t)]) (by rw [hnm]; exact .head) ?_)
    refine WIf.one (WT.cmp ?_ hm)
    refine WE.sub (ge _ _ ?_)
    refine WE.loc (by rw [hnm]; exact .head) ?_ hd
    refine item_nat he (getD_at (by omega)) (by omega) ?_
    refine WE.sub (ge' _ _ (gk _ _ ?_))
    refine item_nat he (getD_at hi) (by omega) ?_
    refine hop _ _ _ (tr_bool ?_)
    have hs : List.range (t + 1) = List.range t ++ [t] := List.range_succ
    refine ⟨fun hc => ?_, fun hc => ?_⟩
    · refine WE.sub (gr _ _ ?_)
      refine WE.loc (by rw [hnm]; exact .head) ?_ hd
      refine item_nat hrr (getD_at (by omega)) (by omega) ⟨rfl, ?_⟩
      rw [hs, List.filter_append, List.filter_cons, if_pos hc]
      simp [vN]
    · refine ⟨rfl, ?_⟩
      rw [hs, List.filter_append, List.filter_cons, if_neg (by rw [hc]; exact Bool.false_ne_true)]
      simp
  · rintro out H d H' ⟨rfl, rfl⟩ nd xd fd
    rw [rg_up] at fd
    exact hΨ d H' xd nd fd
end
section
abbrev ltB (a b : Nat) : Bool := decide (a < b)
abbrev gtB (a b : Nat) : Bool := decide (a > b)
theorem low_length (p : Nat → Bool) (f : Nat → Nat) (i : Nat) : (((List.range i).filter p).map f).length ≤ i := by
  rw [List.length_map]
  refine Nat.le_trans (List.length_filter_le _ _) ?_
  rw [List.length_range]; exact Nat.le_refl _
theorem low_size {p : Nat → Bool} {f : Nat → Nat} {i : Nat} (h : i ≤ 10) : [V.int 0].length + (vN (((List.range i).filter p).map f)).length ≤ sizeLine := by
  have h1 := low_length p f i
  have h2 : (vN (((List.range i).filter p).map f)).length = (((List.range i).filter p).map f).length := by rw [List.length_map]
  rw [h2]
  have : [V.int 0].length = 1 := rfl
  rw [this]
  exact Nat.le_trans (by omega : _ ≤ 1000) (by decide +kernel)
theorem most_ok {B : Base} {k a : Nat} (D : Def1 B 65 a .none .none) (b : Blt B) {H : Hp} {l : Addr} {other : List Nat} {gap : Nat} {Φ : V → Hp → Prop} (hl : H l = some (.list (vN other))) (ho : other.length = 10) (hg : gap ≤ 10)
    (h : ∀ H' r, Ext H H' → H r = none → H' r = some (.list (vN (most other gap))) → Φ (.ref r) H') : WC B (k + 1) (.ref a) [.ref l, .int gap] H Φ := by
  obtain ⟨g1, g2, g3, g4, g5, g6, g7, g8⟩ := b
  have hlg := endsOf_length other gap
  refine WC.defC D ?_ (names := []) (vs0 := []) (bs := [("other", .ref l), ("gap", .int gap)]) (binding_plain (names := ["other", "gap"]) rfl ?_) (xs := ["other", "gap", "ends", "rising", "falling", "k"]) (by decide +kernel) (by with_unfolding_all rfl) ?_
  · walk_at "LK"
  · intro vals hv fd hp hd hk
    obtain ⟨v, u, e⟩ := two_of hv
    subst e
    unfold bindArgs
    rw [hp, hd]
    rfl
  intro cs H0 hcl hnd hcn x0 hcc
  obtain ⟨c1, c2, c3, c4, c5, c6, rfl⟩ : ∃ c1 c2 c3 c4 c5 c6, cs = [c1, c2, c3, c4, c5, c6] := by
    match cs, hcl with
    | [c1, c2, c3, c4, c5, c6], _ => exact ⟨_, _, _, _, _, _, rfl⟩
  have C0 : Cels H H0 [c1, c2, c3, c4, c5, c6] [none, none, none, none, none, none] := Cels.start hnd hcn hcc
  clear hcl hnd hcn hcc
  simp only [List.zip_cons_cons, List.zip_nil_right]
  repeat walk_at "M"
  refine WSt.cel (c := c1) List.mem_cons_self (C0.get (i := 0) rfl rfl) ?_ (by dsimp only; decide +kernel)
  have C1 := C0.set (i := 0) rfl (.ref l)
  have x1 : Ext H (put H0 c1 (.cell (some (.ref l)))) := x0.put _ (C0.new c1 (by simp))
  generalize put H0 c1 (.cell (some (.ref l))) = H1 at C1 x1
  repeat walk_at "M"
  refine WSt.cel (c := c2) (List.mem_cons_of_mem _ List.mem_cons_self) (C1.get (i := 1) rfl rfl) ?_ (by dsimp only; decide +kernel)
  have C2 := C1.set (i := 1) rfl (.int gap)
  have x2 : Ext H (put H1 c2 (.cell (some (.int gap)))) := x1.put _ (C1.new c2 (by simp))
  generalize put H1 c2 (.cell (some (.int gap))) = H2 at C2 x2
  have k1 : H2 c1 = some (.cell (some (.ref l))) := C2.get (i := 0) rfl rfl
  have k2 : H2 c2 = some (.cell (some (.int gap))) := C2.get (i := 1) rfl rfl
  have L2 := x2 _ _ hl
  repeat walk_at "M"
  refine WSs.assign ?_ (hs := by walk_at "SW")
  refine WE.comp [("gap", c2), ("other", c1)] ["place"] [none] ?_ ?_ ?_
  · show CLooks _ (sScope (at1 65)) ["gap", "other"] _ _
    walk_at "CL"
  · intro p hp
    simp only [List.mem_cons, List.not_mem_nil, or_false] at hp ⊢
    rcases hp with rfl | rfl <;> simp
  refine WIt.rangeN 0 gap 1 ?_
  repeat walk_at "M"
  intro r0 H3 n3 e3 f3
  have k1 := e3 _ _ k1
  have k2 := e3 _ _ k2
  have L3 := e3 _ _ L2
  have C3 := C2.ext e3
  have x3 := x2.trans e3
  refine ⟨r0, rfl, f3, rg_small (by omega), rg_pos _, CompOk.new (fun i out H' => H' = H3 ∧ out = vN (((List.range i).map fun p => other.getD p 0).filter (gap ≤ ·))) ?_ ⟨rfl, rfl⟩ (fun _ _ _ _ => trivial) ?_ ?_⟩
  · rw [rg_up]; exact Nat.le_trans (by omega : gap ≤ 10) (by decide +kernel)
  · rintro i out H' v H4 hi ⟨rfl, rfl⟩ ⟨rfl, rfl⟩
    rw [rg_up] at hi
    simp only [Int.zero_add, Int.mul_one]
    repeat walk_at "M"
    refine item_nat L3 (getD_at (by omega)) (by omega) ?_
    repeat walk_at "M"
    have hs : List.range (i + 1) = List.range i ++ [i] := List.range_succ
    refine ⟨fun hc => ?_, fun hc => ?_⟩
    · have hge : gap ≤ other.getD i 0 := by
        have : (gap : Int) ≤ (other.getD i 0 : Nat) := by simpa using hc
        omega
      repeat walk_at "M"
      refine item_nat L3 (getD_at (by omega)) (by omega) ⟨rfl, ?_⟩
      rw [hs, List.map_append, List.filter_append, List.map_singleton, List.filter_cons, if_pos (by simpa using hge)]
      simp only [vN, List.filter_nil, List.map_append, List.map_cons, List.map_nil]
    · have hge : ¬ gap ≤ other.getD i 0 := by
        have : ¬ (gap : Int) ≤ (other.getD i 0 : Nat) := by simpa using hc
        omega
      refine ⟨rfl, ?_⟩
      rw [hs, List.map_append, List.filter_append, List.map_singleton, List.filter_cons, if_neg (by simpa using hge)]
      simp
  rintro out H4 e H5 ⟨rfl, rfl⟩ n5 e5 f5
  rw [rg_up] at f5
  have fe : H5 e = some (.list (vN (endsOf other gap))) := f5
  clear f5
  have C5 := C3.ext e5
  have x5 := x3.trans e5
  have ne : H e = none := x3.new n5
  clear k1 k2 C0 C1 C2 C3 x0 x1 x2 x3 n3 e3 f3 n5 e5 L2 L3
  unfold most at h
  generalize endsOf other gap = ends at fe hlg h
  refine WSt.cel (c := c3) (by simp) (C5.get (i := 2) rfl rfl) ?_ (by dsimp only; decide +kernel)
  have C6 := C5.set (i := 2) rfl (.ref e)
  have fe6 := C5.keep (c := c3) (by simp) fe (o := .cell (some (.ref e)))
  have x6 : Ext H (put H5 c3 (.cell (some (.ref e)))) := x5.put _ (C5.new c3 (by simp))
  generalize put H5 c3 (.cell (some (.ref e))) = H6 at C6 x6 fe6
  repeat walk_at "M"
  refine ⟨by decide +kernel, fun r1 H7 n7 e7 f7 => ?_⟩
  have C7 := C6.ext e7
  have x7 := x6.trans e7
  have fe7 := e7 _ _ fe6
  have nr1 : H r1 = none := x6.new n7
  have d1 : e ≠ r1 := ne_of fe6 n7
  refine WSt.cel (c := c4) (by simp) (C7.get (i := 3) rfl rfl) ?_ (by dsimp only; decide +kernel)
  have C8 := C7.set (i := 3) rfl (.ref r1)
  have fe8 := C7.keep (c := c4) (by simp) fe7 (o := .cell (some (.ref r1)))
  have f8 := C7.keep (c := c4) (by simp) f7 (o := .cell (some (.ref r1)))
  have x8 : Ext H (put H7 c4 (.cell (some (.ref r1)))) := x7.put _ (C7.new c4 (by simp))
  generalize put H7 c4 (.cell (some (.ref r1))) = H8 at C8 x8 fe8 f8
  repeat walk_at "M"
  refine ⟨by decide +kernel, fun r2 H9 n9 e9 f9 => ?_⟩
  have C9 := C8.ext e9
  have x9 := x8.trans e9
  have fe9 := e9 _ _ fe8
  have f19 := e9 _ _ f8
  have nr2 : H r2 = none := x8.new n9
  have d2 : e ≠ r2 := ne_of fe8 n9
  have d3 : r1 ≠ r2 := ne_of f8 n9
  refine WSt.cel (c := c5) (by simp) (C9.get (i := 4) rfl rfl) ?_ (by dsimp only; decide +kernel)
  have C10 := C9.set (i := 4) rfl (.ref r2)
  have fe10 := C9.keep (c := c5) (by simp) fe9 (o := .cell (some (.ref r2)))
  have f110 := C9.keep (c := c5) (by simp) f19 (o := .cell (some (.ref r2)))
  have f210 := C9.keep (c := c5) (by simp) f9 (o := .cell (some (.ref r2)))
  have x10 : Ext H (put H9 c5 (.cell (some (.ref r2)))) := x9.put _ (C9.new c5 (by simp))
  generalize put H9 c5 (.cell (some (.ref r2))) = H10 at C10 x10 fe10 f110 f210
  simp only [List.set_cons_succ, List.set_cons_zero] at C10
  clear C5 C6 C7 C8 C9 x5 x6 x7 x8 x9 fe fe6 fe7 fe8 fe9 f7 f8 f9 f19 n7 n9 e7 e9
  have k3 := C10.get (i := 2) rfl rfl
  repeat walk_at "M"
  refine WSs.for (WIt.rangeN 0 ends.length 1 ?_)
  repeat walk_at "M"
  refine len_nat fe10 (by omega) ?_
  repeat walk_at "M"
  intro r5 H11 n11 e11 f11
  refine ⟨r5, rfl, f11, rg_small (by omega), rg_pos _, fun i vars H' => Ext H H' ∧ (∃ w, Cels H H' [c1, c2, c3, c4, c5, c6] [some (.ref l), some (.int gap), some (.ref e), some (.ref r1), some (.ref r2), w]) ∧ H' e = some (.list (vN ends)) ∧ H' r1 = some (.list (vN (chain ltB ends i))) ∧ H' r2 = some (.list (vN (chain gtB ends i))) ∧ vars = [], ?_, ?_, ?_, ?_⟩
  · exact ⟨x10.trans e11, ⟨_, C10.ext e11⟩, e11 _ _ fe10, e11 _ _ f110, e11 _ _ f210, rfl⟩
  · exact fun _ _ _ _ => trivial
  · rintro i vars H' v H12 hi ⟨x12, ⟨w, C12⟩, E12, F12, G12, rfl⟩ ⟨rfl, rfl⟩
    rw [rg_up] at hi
    simp only [Int.zero_add, Int.mul_one]
    refine WA.name (WSt.cel (c := c6) (by simp) (C12.get (i := 5) rfl rfl) ?_ (by dsimp only; decide +kernel))
    have C13 := C12.set (i := 5) rfl (.int i)
    have E13 := C12.keep (c := c6) (by simp) E12 (o := .cell (some (.int i)))
    have F13 := C12.keep (c := c6) (by simp) F12 (o := .cell (some (.int i)))
    have G13 := C12.keep (c := c6) (by simp) G12 (o := .cell (some (.int i)))
    have x13 : Ext H (put H12 c6 (.cell (some (.int i)))) := x12.put _ (C12.new c6 (by simp))
    generalize put H12 c6 (.cell (some (.int i))) = H13 at C13 E13 F13 G13 x13
    simp only [List.set_cons_succ, List.set_cons_zero] at C13
    have k3 := C13.get (i := 2) rfl rfl
    have k4 := C13.get (i := 3) rfl rfl
    have k5 := C13.get (i := 4) rfl rfl
    have k6 := C13.get (i := 5) rfl rfl
    repeat walk_at "M"
    refine ⟨mty_list F13, ?_⟩
    repeat walk_at "M"
    refine ⟨by decide +kernel, fun z0 H14 n14 e14 f14 => ?_⟩
    have k3 := e14 _ _ k3
    have k4 := e14 _ _ k4
    have k5 := e14 _ _ k5
    have k6 := e14 _ _ k6
    have E14 := e14 _ _ E13
    have F14 := e14 _ _ F13
    have G14 := e14 _ _ G13
    refine WE.comp [("ends", c3), ("k", c6), ("rising", c4)] ["j"] [none] ?_ ?_ ?_
    · show CLooks _ (sScope (at1 65)) ["ends", "k", "rising"] _ _
      walk_at "CL"
    · intro p hp
      simp only [List.mem_cons, List.not_mem_nil, or_false] at hp ⊢
      rcases hp with rfl | rfl | rfl <;> simp
    refine WIt.rangeN 0 i 1 ?_
    repeat walk_at "M"
    intro z1 H15 n15 e15 f15
    have k3 := e15 _ _ k3
    have k4 := e15 _ _ k4
    have k5 := e15 _ _ k5
    have k6 := e15 _ _ k6
    have E15 := e15 _ _ E14
    have F15 := e15 _ _ F14
    have G15 := e15 _ _ G14
    refine ⟨z1, rfl, f15, rg_small (by omega), rg_pos _, comp_chain (lt := ltB) hi (chain_length _ _ _) (by omega) rfl E15 F15 (fun v Φ q => WE.cel (by simp) k3 q) (fun v Φ q => WE.cel (by simp) k3 q) (fun v Φ q => WE.cel (by simp) k4 q) (fun v Φ q => WE.cel (by simp) k6 q)
      (fun a b Φ q => cmp_lt (by have : decide ((a : Int) < (b : Int)) = ltB a b := by (show _ = decide (a < b)); rw [decide_eq_decide]; omega
                                 rw [this]; exact q)) (by with_unfolding_all rfl) (by decide +kernel) fun d H16 e16 n16 f16 => ?_⟩
    have F16 := e16 _ _ F15
    refine list_addN (.of ((e15.trans e16) _ _ f14)) (.of f16) ?_ fun z2 H17 n17 e17 f17 => ?_
    · exact low_size (by omega)
    have f17' : H17 z2 = some (.list (vN (0 :: ((List.range i).filter fun j => ltB (ends.getD j 0) (ends.getD i 0)).map fun j => (chain ltB ends i).getD j 0))) := f17
    repeat walk_at "M"
    refine max_nat f17' ?_
    repeat walk_at "M"
    have x1317 := e14.trans (e15.trans (e16.trans e17))
    have F17 := x1317 _ _ F13
    have C17 := C13.ext x1317
    have E17 := x1317 _ _ E13
    have G17 := x1317 _ _ G13
    have x17 := x13.trans x1317
    refine append_nat (n := 1 + mx (((List.range i).filter fun j => ltB (ends.getD j 0) (ends.getD i 0)).map fun j => (chain ltB ends i).getD j 0)) F17 (by rw [chain_length]; omega) ⟨rfl, ?_⟩
    have hF : chain ltB ends i ++ [1 + mx (((List.range i).filter fun j => ltB (ends.getD j 0) (ends.getD i 0)).map fun j => (chain ltB ends i).getD j 0)] = chain ltB ends (i + 1) := by rw [chain_succ, chainStep]
    rw [hF]
    have hr1 := C17.notin F17
    have C18 := C17.ne hr1 (.list (vN (chain ltB ends (i + 1))))
    have F18 : put H17 r1 (.list (vN (chain ltB ends (i + 1)))) r1 = some (.list (vN (chain ltB ends (i + 1)))) := put_self _ _ _
    have E18 : put H17 r1 (.list (vN (chain ltB ends (i + 1)))) e = some (.list (vN ends)) := by rw [put_ne _ _ d1]; exact E17
    have G18 : put H17 r1 (.list (vN (chain ltB ends (i + 1)))) r2 = some (.list (vN (chain gtB ends i))) := by rw [put_ne _ _ (Ne.symm d3)]; exact G17
    have x18 : Ext H (put H17 r1 (.list (vN (chain ltB ends (i + 1))))) := x17.put _ nr1
    generalize put H17 r1 (.list (vN (chain ltB ends (i + 1)))) = H18 at C18 F18 E18 G18 x18
    clear k3 k4 k5 k6 x1317 F17 C17 E17 G17 x17 hF hr1 e14 e15 e16 e17 n14 n15 n16 n17 f14 f15 f16 f17 f17' E14 F14 G14 E15 F15 G15 F16
    have k3 := C18.get (i := 2) rfl rfl
    have k5 := C18.get (i := 4) rfl rfl
    have k6 := C18.get (i := 5) rfl rfl
    repeat walk_at "M"
    refine ⟨mty_list G18, ?_⟩
    repeat walk_at "M"
    refine ⟨by decide +kernel, fun z0 H14 n14 e14 f14 => ?_⟩
    have k3 := e14 _ _ k3
    have k5 := e14 _ _ k5
    have k6 := e14 _ _ k6
    have E14 := e14 _ _ E18
    have G14 := e14 _ _ G18
    refine WE.comp [("ends", c3), ("falling", c5), ("k", c6)] ["j"] [none] ?_ ?_ ?_
    · show CLooks _ (sScope (at1 65)) ["ends", "falling", "k"] _ _
      walk_at "CL"
    · intro p hp
      simp only [List.mem_cons, List.not_mem_nil, or_false] at hp ⊢
      rcases hp with rfl | rfl | rfl <;> simp
    refine WIt.rangeN 0 i 1 ?_
    repeat walk_at "M"
    intro z1 H15 n15 e15 f15
    have k3 := e15 _ _ k3
    have k5 := e15 _ _ k5
    have k6 := e15 _ _ k6
    have E15 := e15 _ _ E14
    have G15 := e15 _ _ G14
    refine ⟨z1, rfl, f15, rg_small (by omega), rg_pos _, comp_chain (lt := gtB) hi (chain_length _ _ _) (by omega) rfl E15 G15 (fun v Φ q => WE.cel (by simp) k3 q) (fun v Φ q => WE.cel (by simp) k3 q) (fun v Φ q => WE.cel (by simp) k5 q) (fun v Φ q => WE.cel (by simp) k6 q)
      (fun a b Φ q => cmp_gt (by have : decide ((a : Int) > (b : Int)) = gtB a b := by (show _ = decide (a > b)); rw [decide_eq_decide]; omega
                                 rw [this]; exact q)) (by with_unfolding_all rfl) (by decide +kernel) fun d H16 e16 n16 f16 => ?_⟩
    refine list_addN (.of ((e15.trans e16) _ _ f14)) (.of f16) ?_ fun z2 H17 n17 e17 f17 => ?_
    · exact low_size (by omega)
    have f17' : H17 z2 = some (.list (vN (0 :: ((List.range i).filter fun j => gtB (ends.getD j 0) (ends.getD i 0)).map fun j => (chain gtB ends i).getD j 0))) := f17
    repeat walk_at "M"
    refine max_nat f17' ?_
    repeat walk_at "M"
    have x1817 := e14.trans (e15.trans (e16.trans e17))
    have G17 := x1817 _ _ G18
    have C17 := C18.ext x1817
    have E17 := x1817 _ _ E18
    have F17 := x1817 _ _ F18
    have x17 := x18.trans x1817
    refine append_nat (n := 1 + mx (((List.range i).filter fun j => gtB (ends.getD j 0) (ends.getD i 0)).map fun j => (chain gtB ends i).getD j 0)) G17 (by rw [chain_length]; omega) ⟨rfl, ?_⟩
    have hG : chain gtB ends i ++ [1 + mx (((List.range i).filter fun j => gtB (ends.getD j 0) (ends.getD i 0)).map fun j => (chain gtB ends i).getD j 0)] = chain gtB ends (i + 1) := by rw [chain_succ, chainStep]
    rw [hG]
    have hr2 := C17.notin G17
    repeat walk_at "M"
    exact ⟨x17.put _ nr2, ⟨_, C17.ne hr2 _⟩, by rw [put_ne _ _ d2]; exact E17, by rw [put_ne _ _ d3]; exact F17, put_self _ _ _, rfl⟩
  · rintro vars H' ⟨x12, ⟨w, C12⟩, E12, F12, G12, rfl⟩
    rw [rg_up] at F12 G12
    have k4 := C12.get (i := 3) rfl rfl
    have k5 := C12.get (i := 4) rfl rfl
    repeat walk_at "M"
    refine ⟨by decide +kernel, fun z0 H13 n13 e13 f13 => ?_⟩
    have k4 := e13 _ _ k4
    have k5 := e13 _ _ k5
    have F13 := e13 _ _ F12
    have G13 := e13 _ _ G12
    have hch : ∀ lt, [V.int 0].length + (vN (chain lt ends ends.length)).length ≤ sizeLine := fun lt => by
      have h2 : (vN (chain lt ends ends.length)).length = ends.length := by rw [List.length_map, chain_length]
      have : [V.int 0].length = 1 := rfl
      rw [h2, this]
      exact Nat.le_trans (by omega : _ ≤ 1000) (by decide +kernel)
    repeat walk_at "M"
    refine list_addN (.of f13) (.of F13) (hch _) fun z2 H14 n14 e14 f14 => ?_
    have f14' : H14 z2 = some (.list (vN (0 :: chain ltB ends ends.length))) := f14
    have k5 := e14 _ _ k5
    have G14 := e14 _ _ G13
    repeat walk_at "M"
    refine max_nat f14' ?_
    repeat walk_at "M"
    refine ⟨by decide +kernel, fun z3 H15 n15 e15 f15 => ?_⟩
    have k5 := e15 _ _ k5
    have G15 := e15 _ _ G14
    repeat walk_at "M"
    refine list_addN (.of f15) (.of G15) (hch _) fun z4 H16 n16 e16 f16 => ?_
    have f16' : H16 z4 = some (.list (vN (0 :: chain gtB ends ends.length))) := f16
    repeat walk_at "M"
    refine max_nat f16' ?_
    repeat walk_at "M"
    refine ⟨by show 2 ≤ sizeLine; decide +kernel, fun z5 H17 n17 e17 f17 => ?_⟩
    have xx := x12.trans (e13.trans (e14.trans (e15.trans e16)))
    repeat walk_at "M"
    exact h _ z5 (xx.trans e17) (xx.new n17) f17
end
section
/-! the text is read as it was drawn -/
abbrev pe (i : Nat) (u : List Nat) : List (Int × Str) := (u.zipIdx i).map fun q => ((q.2 : Int), (⟨#[q.1]⟩ : Str))
theorem escs_app : ∀ (u w : List Nat) (i : Nat), 92 ∉ u → escs i false (u ++ w) = pe i u ++ escs (i + u.length) false w
  | [], w, i, _ => by simp
  | c :: r, w, i, h => by
    have h1 : ¬ c = 92 := fun e => h (by simp [e])
    have h2 := escs_app r w (i + 1) fun e => h (List.mem_cons_of_mem _ e)
    rw [List.cons_append, escs, if_neg h1, h2, pe, pe, List.zipIdx_cons, List.map_cons, List.cons_append]
    simp [Nat.add_assoc, Nat.add_comm 1]
theorem left_app : ∀ (u w : List Nat), 92 ∉ u → left false (u ++ w) = left false w
  | [], w, _ => rfl
  | c :: r, w, h => by
    have h1 : ¬ c = 92 := fun e => h (by simp [e])
    have h2 := left_app r w fun e => h (List.mem_cons_of_mem _ e)
    rw [List.cons_append, left, show decide (c = 92) = false by simp [h1]]
    exact h2
theorem q_str : Str.ofString "\"" = ⟨#[34]⟩ := by decide +kernel
theorem fold_plain (x : Str) : ∀ (u : List Nat) (i : Nat) (s : StSt), 34 ∉ u → (pe i u).foldl (stStep x) s = s
  | [], _, _, _ => rfl
  | c :: r, i, s, h => by
    have h1 : ¬ c = 34 := fun e => h (by simp [e])
    rw [pe, List.zipIdx_cons, List.map_cons, List.foldl_cons]
    have : stStep x s ((i : Int), ⟨#[c]⟩) = s := by
      unfold stStep
      rw [if_neg]
      show ¬ (⟨#[c]⟩ : Str) = Str.ofString "\""
      rw [q_str, one_str]; exact h1
    rw [this]
    exact fold_plain x r (i + 1) s fun e => h (List.mem_cons_of_mem _ e)
def Brk (n : Nat) : Prop := ∃ κ, κ < 4 ∧ (n = base κ ∨ n = base κ + 1)
theorem brk_chr {n : Nat} (h : Brk n) : chr n ≠ 34 ∧ chr n ≠ 92 ∧ n ≠ 0 := by
  obtain ⟨κ, hκ, h⟩ := h
  have k1 : ∀ κ < 4, chr (base κ) ≠ 34 ∧ chr (base κ) ≠ 92 ∧ base κ ≠ 0 := by decide
  have k2 : ∀ κ < 4, chr (base κ + 1) ≠ 34 ∧ chr (base κ + 1) ≠ 92 ∧ base κ + 1 ≠ 0 := by decide
  rcases h with rfl | rfl
  · exact k1 κ hκ
  · exact k2 κ hκ
theorem no_sign {ns : List Nat} (h : ∀ n ∈ ns, Brk n) : 34 ∉ ns.map chr ∧ 92 ∉ ns.map chr := by
  refine ⟨fun hm => ?_, fun hm => ?_⟩
  · obtain ⟨n, hn, e⟩ := List.mem_map.mp hm; exact (brk_chr (h n hn)).1 e
  · obtain ⟨n, hn, e⟩ := List.mem_map.mp hm; exact (brk_chr (h n hn)).2.1 e
structure CodeOk (code : Str → Nat) : Prop where
  brk : ∀ n, Brk n → code ⟨#[chr n]⟩ = n
  h0 : code ⟨#[92, 93]⟩ = 0
  h2 : code ⟨#[92, 34]⟩ = 0
  h3 : code ⟨#[92, 92]⟩ = 0
theorem code_row {code : Str → Nat} (C : CodeOk code) : ∀ (ns : List Nat) (i : Nat), (∀ n ∈ ns, Brk n) → ((pe i (ns.map chr)).map fun q => code q.2).filter (· ≠ 0) = ns
  | [], _, _ => rfl
  | n :: r, i, h => by
    have hn := h n List.mem_cons_self
    have ih := code_row C r (i + 1) fun m hm => h m (List.mem_cons_of_mem _ hm)
    rw [List.map_cons, pe, List.zipIdx_cons, List.map_cons, List.map_cons, List.filter_cons]
    have e : code ⟨#[chr n]⟩ = n := C.brk n hn
    have : decide (code ((fun q : Nat × Nat => ((q.2 : Int), (⟨#[q.1]⟩ : Str))) (chr n, i)).2 ≠ 0) = true := by
      show decide (code ⟨#[chr n]⟩ ≠ 0) = true
      rw [e]; exact decide_eq_true (brk_chr hn).2.2
    rw [if_pos this]
    show code ⟨#[chr n]⟩ :: _ = _
    rw [e, ih]
def hid (i : Nat) : List Nat := if i = 0 then [92, 93] else if i = 1 then [34, 125, 34] else if i = 2 then [92, 34] else if i = 3 then [92, 92] else [34, 92, 34, 60, 34]
theorem str_of (x : Str) (l : List Nat) (h : x.cps.toList = l) : x = ⟨l.toArray⟩ := by rw [← h]
theorem join_two (a b : Str) : (Txt.join "" [a, b]).cps.toList = a.cps.toList ++ b.cps.toList := by rw [join_cps]; simp
theorem join_one (a : Str) : (Txt.join "" [a]).cps.toList = a.cps.toList := by rw [join_cps]; simp
theorem run_cps {x : Str} {a b : Nat} (hab : a ≤ b) (hb : b ≤ x.length) : (Txt.slice x (some a) (some b)).cps.toList = (x.cps.toList.drop a).take (b - a) := by rw [slice_run hab hb]
theorem from_cps {x : Str} {a : Nat} (ha : a ≤ x.length) : (Txt.slice x (some a) none).cps.toList = x.cps.toList.drop a := by rw [slice_from ha]
/-- a quoted part behind some plain signs -/
theorem strip_quoted {x : Str} {u h v : List Nat} {mid : List (Int × Str)} (hx : x.cps.toList = u ++ h ++ v) (hu : u ≠ []) (hh : 34 ∈ h) (u34 : 34 ∉ u) (u92 : 92 ∉ u) (v34 : 34 ∉ v) (v92 : 92 ∉ v)
    (he : ∀ w, escs u.length false (h ++ w) = ((u.length : Int), ⟨#[34]⟩) :: mid ++ (((u.length + h.length - 1 : Nat) : Int), ⟨#[34]⟩) :: escs (u.length + h.length) false w) (hm : ∀ q ∈ mid, q.2 ≠ ⟨#[34]⟩) : (stripS x).cps.toList = u ++ v := by
  have hpos : 0 < h.length := List.length_pos_of_mem hh
  have hxl : x.length = u.length + h.length + v.length := by
    have : x.length = x.cps.toList.length := by simp [Str.length]
    rw [this, hx]; simp; omega
  unfold stripS
  rw [if_pos (by rw [hx]; simp [hh])]
  have e1 : escs 0 false x.cps.toList = pe 0 u ++ (((u.length : Int), ⟨#[34]⟩) :: mid ++ (((u.length + h.length - 1 : Nat) : Int), ⟨#[34]⟩) :: pe (u.length + h.length) v) := by
    rw [hx, List.append_assoc, escs_app u _ 0 u92, Nat.zero_add, he, escs_plain v _ v92]
  have fmid : ∀ (m : List (Int × Str)) (s : StSt), (∀ q ∈ m, q.2 ≠ ⟨#[34]⟩) → m.foldl (stStep x) s = s := by
    intro m
    induction m with
    | nil => intro s _; rfl
    | cons q r ih =>
      intro s hq
      rw [List.foldl_cons]
      have : stStep x s q = s := by unfold stStep; rw [if_neg (by rw [q_str]; exact hq q List.mem_cons_self)]
      rw [this]
      exact ih s fun p hp => hq p (List.mem_cons_of_mem _ hp)
  have hul : 0 < u.length := List.length_pos_iff.mpr hu
  have e2 : (escs 0 false x.cps.toList).foldl (stStep x) (0, none, []) = (((u.length + h.length : Nat) : Int), none, [Txt.slice x (some 0) (some (u.length : Int))]) := by
    rw [e1, List.foldl_append, fold_plain x u 0 _ u34, List.cons_append, List.foldl_cons, List.foldl_append]
    have s1 : stStep x (0, none, []) ((u.length : Int), ⟨#[34]⟩) = (0, some (u.length : Int), []) := by unfold stStep; rw [if_pos q_str.symm]
    rw [s1, fmid mid _ hm, List.foldl_cons]
    have s2 : stStep x (0, some (u.length : Int), []) (((u.length + h.length - 1 : Nat) : Int), ⟨#[34]⟩) = (((u.length + h.length : Nat) : Int), none, [Txt.slice x (some 0) (some (u.length : Int))]) := by
      unfold stStep
      rw [if_pos q_str.symm]
      dsimp only
      rw [if_pos (by omega)]
      refine Prod.ext ?_ rfl
      show ((u.length + h.length - 1 : Nat) : Int) + 1 = _
      omega
    rw [s2, fold_plain x v _ _ v34]
  rw [e2]
  have c1 : (Txt.slice x (some 0) (some (u.length : Int))).cps.toList = u := by
    have := run_cps (x := x) (a := 0) (b := u.length) (Nat.zero_le _) (by omega)
    rw [show ((0 : Nat) : Int) = 0 by rfl] at this
    rw [this, hx]; simp
  unfold stFin
  dsimp only
  split
  · rw [List.singleton_append, join_two, c1, from_cps (by omega), hx]
    simp [List.drop_append]
  · rename_i hlt
    have hv : v = [] := by
      have : ¬ ((u.length + h.length : Nat) : Int) < x.length := hlt
      exact List.eq_nil_of_length_eq_zero (by omega)
    rw [join_one, c1, hv]; simp
theorem read_text {code : Str → Nat} (C : CodeOk code) {x : Str} {ns ms : List Nat} {i : Nat} (hx : x.cps.toList = ns.map chr ++ hid i ++ ms.map chr) (hn : ∀ n ∈ ns, Brk n) (hm : ∀ n ∈ ms, Brk n) (h0 : ns ≠ []) (hl : ns.length + ms.length ≤ 400) : Plain x ∧ readN code x = ns ++ ms := by
  obtain ⟨u34, u92⟩ := no_sign hn
  obtain ⟨v34, v92⟩ := no_sign hm
  have hu : ns.map chr ≠ [] := by simpa using h0
  have hhl : (hid i).length ≤ 5 := by unfold hid; split; decide; split; decide; split; decide; split <;> decide
  have xl : x.length = ns.length + (hid i).length + ms.length := by
    have : x.length = x.cps.toList.length := by simp [Str.length]
    rw [this, hx]; simp; omega
  have x500 : x.length ≤ 500 := by omega
  -- what stays when the whole text stays
  have whole : ∀ c, hid i = [92, c] → stripS x = x → code ⟨#[92, c]⟩ = 0 → Plain x ∧ readN code x = ns ++ ms := by
    intro c hc hs h00
    have l1 : left false x.cps.toList = false := by
      rw [hx, hc, List.append_assoc, left_app _ _ u92]
      show left false (92 :: c :: ms.map chr) = false
      unfold left
      exact left_plain _ v92
    refine ⟨⟨x500, l1, by rw [hs]; exact l1, by rw [hs]; exact x500⟩, ?_⟩
    unfold readN
    rw [hs, hx, hc, List.append_assoc, escs_app _ _ 0 u92]
    have e : ∀ j, escs j false ([92, c] ++ ms.map chr) = (((j + 1 : Nat) : Int), ⟨#[92, c]⟩) :: pe (j + 2) (ms.map chr) := fun j => by
      show escs j false (92 :: c :: ms.map chr) = _
      rw [escs, if_pos rfl, escs, escs_plain _ _ v92]
    rw [e, List.map_append, List.filter_append, code_row C ns 0 hn, List.map_cons, List.filter_cons]
    have : ¬ decide (code ⟨#[92, c]⟩ ≠ 0) = true := by rw [h00]; decide
    rw [if_neg this, code_row C ms _ hm]
  -- what stays when a part is quoted
  have part : (stripS x).cps.toList = ns.map chr ++ ms.map chr → left false x.cps.toList = false → Plain x ∧ readN code x = ns ++ ms := by
    intro hs hlf
    have hall : ∀ n ∈ ns ++ ms, Brk n := fun n hh => (List.mem_append.mp hh).elim (hn n) (hm n)
    rw [← List.map_append] at hs
    obtain ⟨a34, a92⟩ := no_sign hall
    refine ⟨⟨x500, hlf, by rw [hs]; exact left_plain _ a92, ?_⟩, ?_⟩
    · have : (stripS x).length = (stripS x).cps.toList.length := by simp [Str.length]
      rw [this, hs]; simp; omega
    · unfold readN
      rw [hs, escs_plain _ _ a92]
      exact code_row C _ 0 hall
  by_cases i0 : i = 0
  · have hh : hid i = [92, 93] := by unfold hid; rw [if_pos i0]
    refine whole 93 hh (strip_plain ?_) C.h0
    rw [hx, hh]; simp only [List.mem_append, not_or]; exact ⟨⟨u34, by decide⟩, v34⟩
  by_cases i1 : i = 1
  · have hh : hid i = [34, 125, 34] := by unfold hid; rw [if_neg i0, if_pos i1]
    refine part (strip_quoted (h := hid i) (mid := [(((ns.map chr).length + 1 : Nat), ⟨#[125]⟩)]) hx hu (by rw [hh]; decide) u34 u92 v34 v92 (fun w => ?_) (by simp)) ?_
    · rw [hh]
      show escs _ false (34 :: 125 :: 34 :: w) = _
      rw [escs, if_neg (by decide), escs, if_neg (by decide), escs, if_neg (by decide)]
      rfl
    · rw [hx, hh, List.append_assoc, left_app _ _ u92]
      show left false (34 :: 125 :: 34 :: ms.map chr) = false
      exact left_plain _ (by simpa using v92)
  by_cases i2 : i = 2
  · have hh : hid i = [92, 34] := by unfold hid; rw [if_neg i0, if_neg i1, if_pos i2]
    refine whole 34 hh ?_ C.h2
    have e : escs 0 false x.cps.toList = pe 0 (ns.map chr) ++ (((0 + (ns.map chr).length + 1 : Nat) : Int), ⟨#[92, 34]⟩) :: pe (0 + (ns.map chr).length + 2) (ms.map chr) := by
      rw [hx, hh, List.append_assoc, escs_app _ _ 0 u92]
      show _ ++ escs _ false (92 :: 34 :: ms.map chr) = _
      rw [escs, if_pos rfl, escs, escs_plain _ _ v92]
    unfold stripS
    rw [if_pos (by rw [hx, hh]; simp), e, List.foldl_append, fold_plain x _ 0 _ u34, List.foldl_cons]
    have s1 : stStep x (0, none, []) (((0 + (ns.map chr).length + 1 : Nat) : Int), ⟨#[92, 34]⟩) = (0, none, []) := by
      unfold stStep
      rw [if_neg]
      rw [q_str]
      intro h
      injection h with h
      simp at h
    rw [s1, fold_plain x _ _ _ v34]
    unfold stFin
    dsimp only
    rw [if_pos (by have := List.length_pos_iff.mpr h0; omega), List.nil_append]
    refine (str_of _ _ (join_one _)).trans ?_
    have := from_cps (x := x) (a := 0) (Nat.zero_le _)
    rw [show ((0 : Nat) : Int) = 0 by rfl] at this
    rw [this, List.drop_zero]
  by_cases i3 : i = 3
  · have hh : hid i = [92, 92] := by unfold hid; rw [if_neg i0, if_neg i1, if_neg i2, if_pos i3]
    refine whole 92 hh (strip_plain ?_) C.h3
    rw [hx, hh]; simp only [List.mem_append, not_or]; exact ⟨⟨u34, by decide⟩, v34⟩
  · have hh : hid i = [34, 92, 34, 60, 34] := by unfold hid; rw [if_neg i0, if_neg i1, if_neg i2, if_neg i3]
    refine part (strip_quoted (h := hid i) (mid := [(((ns.map chr).length + 2 : Nat), ⟨#[92, 34]⟩), (((ns.map chr).length + 3 : Nat), ⟨#[60]⟩)]) hx hu (by rw [hh]; decide) u34 u92 v34 v92 (fun w => ?_) ?_) ?_
    · rw [hh]
      show escs _ false (34 :: 92 :: 34 :: 60 :: 34 :: w) = _
      rw [escs, if_neg (by decide), escs, if_pos rfl, escs, escs, if_neg (by decide), escs, if_neg (by decide)]
      rfl
    · intro q hq
      simp only [List.mem_cons, List.not_mem_nil, or_false] at hq
      rcases hq with rfl | rfl
      · intro h; injection h with h; simp at h
      · rw [Ne, one_str]; decide
    · rw [hx, hh, List.append_assoc, left_app _ _ u92]
      show left false (34 :: 92 :: 34 :: 60 :: 34 :: ms.map chr) = false
      unfold left
      show left (decide (92 = 92)) (34 :: 60 :: 34 :: ms.map chr) = false
      unfold left
      exact left_plain _ (by simpa using v92)
theorem Tied.brk {ns other : List Nat} (T : Tied ns other) : ∀ n ∈ ns, Brk n := fun n hn => by
  obtain ⟨p, hp⟩ := List.mem_iff_getElem?.mp hn
  obtain ⟨κ, hκ, h⟩ := T.num p n hp
  rcases h with ⟨e, _⟩ | ⟨e, _⟩
  · exact ⟨κ, hκ, .inl e⟩
  · exact ⟨κ, hκ, .inr e⟩
end
section
/-- all that the law calls -/
structure Law1 (B : Base) (code : Str → Nat) : Prop where
  b : Blt B
  C : CodeOk code
  read : ∃ a0 a1 ae, Read B a0 a1 ae code ∧ ∃ ac, Def1 B 6 ac .none .none ∧ B.mg "_check_parenthesis" = some (.ref ac) ∧ ∃ at', Def1 B 62 at' .none .none ∧ B.mg "_law_ties" = some (.ref at') ∧ ∃ ar, Def1 B 61 ar .none .none ∧ B.mg "_law_read" = some (.ref ar)
  cols : ∃ ar a, Bis B 1 ar "bisect_right" ∧ Def1 B 63 a .none .none ∧ B.mg "_law_columns" = some (.ref a)
  exch : ∃ al a, Bis B 2 al "bisect_left" ∧ Def1 B 64 a .none .none ∧ B.mg "_law_exchanged" = some (.ref a)
  most : ∃ a, Def1 B 65 a .none .none ∧ B.mg "_law_most" = some (.ref a)
  drawn : ∃ a, Def1 B 60 a .none .none ∧ B.mg "_law_drawn" = some (.ref a)
def hidS (i : Nat) : Str := ⟨(hid i).toArray⟩
theorem hid_get {i : Nat} (h : i < 5) : [V.str "\\]", V.str "\"}\"", V.str "\\\"", V.str "\\\\", V.str "\"\\\"<\""][((i : Nat) : Int).toNat]? = some (V.str (hidS i)) := by
  have e0 : Str.ofString "\\]" = hidS 0 := by decide +kernel
  have e1 : Str.ofString "\"}\"" = hidS 1 := by decide +kernel
  have e2 : Str.ofString "\\\"" = hidS 2 := by decide +kernel
  have e3 : Str.ofString "\\\\" = hidS 3 := by decide +kernel
  have e4 : Str.ofString "\"\\\"<\"" = hidS 4 := by decide +kernel
  match i with
  | 0 => rw [e0]; rfl
  | 1 => rw [e1]; rfl
  | 2 => rw [e2]; rfl
  | 3 => rw [e3]; rfl
  | 4 => rw [e4]; rfl
def cell1 (ns : List Nat) (q i p : Nat) : Str := sign (ns.getD p 0) ++ (if p = q then hidS i else "")
theorem text_cps {ns : List Nat} (hn : ns.length = 10) {q i : Nat} (hq : q < 10) : (Txt.join "" ((List.range 10).map (cell1 ns q i))).cps.toList = (ns.take (q + 1)).map chr ++ hid i ++ (ns.drop (q + 1)).map chr := by
  rw [join_cps, List.map_map]
  obtain ⟨n0, n1, n2, n3, n4, n5, n6, n7, n8, n9, rfl⟩ : ∃ n0 n1 n2 n3 n4 n5 n6 n7 n8 n9, ns = [n0, n1, n2, n3, n4, n5, n6, n7, n8, n9] := by
    match ns, hn with
    | [n0, n1, n2, n3, n4, n5, n6, n7, n8, n9], _ => exact ⟨_, _, _, _, _, _, _, _, _, _, rfl⟩
  have e : ∀ p, (cell1 [n0, n1, n2, n3, n4, n5, n6, n7, n8, n9] q i p).cps.toList = [chr ([n0, n1, n2, n3, n4, n5, n6, n7, n8, n9].getD p 0)] ++ (if p = q then hid i else []) := fun p => by
    unfold cell1
    show ((sign _).cps ++ (if p = q then hidS i else "").cps).toList = _
    rw [Array.toList_append]
    split
    · rfl
    · have : (Str.ofString "").cps.toList = [] := by decide +kernel
      rw [this]
  have hr : List.range 10 = [0, 1, 2, 3, 4, 5, 6, 7, 8, 9] := by decide
  rw [hr]
  simp only [List.map_cons, List.map_nil, Function.comp, e]
  have : q = 0 ∨ q = 1 ∨ q = 2 ∨ q = 3 ∨ q = 4 ∨ q = 5 ∨ q = 6 ∨ q = 7 ∨ q = 8 ∨ q = 9 := by omega
  rcases this with rfl | rfl | rfl | rfl | rfl | rfl | rfl | rfl | rfl | rfl <;> simp
theorem text_ok {code : Str → Nat} (C : CodeOk code) {ns other : List Nat} (T : Tied ns other) {q i : Nat} (hq : q < 10) : Plain (Txt.join "" ((List.range 10).map (cell1 ns q i))) ∧ readN code (Txt.join "" ((List.range 10).map (cell1 ns q i))) = ns := by
  have hn := T.nl
  have h := read_text C (ns := ns.take (q + 1)) (ms := ns.drop (q + 1)) (i := i) (text_cps hn hq) (fun n hh => T.brk n (List.mem_of_mem_take hh)) (fun n hh => T.brk n (List.mem_of_mem_drop hh)) (fun e => by
    have : (ns.take (q + 1)).length = 0 := by rw [e]; rfl
    rw [List.length_take] at this; omega) (by rw [List.length_take, List.length_drop]; omega)
  rw [List.take_append_drop] at h
  exact h
theorem cell1_length (ns : List Nat) (q i p : Nat) : (cell1 ns q i p).length ≤ 6 := by
  unfold cell1
  have h1 : ∀ a b : Str, (a ++ b).length = a.length + b.length := fun a b => by show (a.cps ++ b.cps).size = _; rw [Array.size_append]; rfl
  rw [h1]
  have h2 : (sign (ns.getD p 0)).length = 1 := rfl
  have h3 : (if p = q then hidS i else Str.ofString "").length ≤ 5 := by
    split
    · unfold hidS hid Str.length; split; decide; split; decide; split; decide; split <;> decide
    · decide +kernel
  rw [h2]
  have : (if p = q then hidS i else ("" : Str)).length ≤ 5 := h3
  omega
theorem text_join (ns : List Nat) (q i : Nat) : JoinOk "" ((List.range 10).map (cell1 ns q i)) = true := by
  refine joinOk_of_weight ?_ (by decide +kernel)
  have h1 := sum_le_mul (l := ((List.range 10).map (cell1 ns q i)).map (·.length)) (m := 6) fun n hn => by
    rw [List.map_map] at hn
    obtain ⟨p, _, rfl⟩ := List.mem_map.mp hn
    exact cell1_length ns q i p
  rw [List.length_map, List.length_map, List.length_range] at h1
  rw [List.length_map, List.length_range]; omega
theorem at_sign {ns : List Nat} {p n : Nat} (h : ns[p]? = some n) : (vS (ns.map sign))[((p : Nat) : Int).toNat]? = some (.str (sign n)) := by
  rw [Int.toNat_natCast, List.getElem?_map, List.getElem?_map, h]; rfl
/-- the closing places -/
theorem comp_closed {B : Base} {k : Nat} {F' : FI} {e : Addr} {xe jn : Str} {p1 p2 p3 p4 p5 p6 p7 : Pos} {other : List Nat} {Ψ : Addr → Hp → Prop} {H1 : Hp} (ho : other.length = 10) (hnm : F'.names = [jn]) (he : H1 e = some (.list (vN other)))
    (ge : ∀ v (Φ : V → Hp → Prop), Φ (.ref e) H1 → WE B k F' (.Name xe p1) v H1 Φ) (hm : behindInMarks .Lt (.Name jn p4) = false) (hd : (jn == ("__debug__" : Str)) = false)
    (hΨ : ∀ d H', Ext H1 H' → H1 d = none → H' d = some (.list (vN (closed other))) → Ψ d H') :
    CompOk B k F' [none] (.Name jn p6) (.Name jn p7) [.Compare (.Subscript (.Name xe p1) (.Name jn p2) p3) [.Lt] [.Name jn p4] p5] Ψ (rgCount 0 10 1) (fun _ => True) (fun t H v H' => v = .int (0 + t * 1) ∧ H' = H) H1 := by
  refine CompOk.new (fun t out H' => H' = H1 ∧ out = vN ((List.range t).filter fun p => other.getD p 0 < p)) (by rw [rg10]; decide +kernel) ⟨rfl, rfl⟩ (fun _ _ _ _ => trivial) ?_ ?_
  · rintro t out H v H2 ht ⟨rfl, rfl⟩ ⟨rfl, rfl⟩
    rw [rg10] at ht
    simp only [Int.zero_add, Int.mul_one]
    refine WA.name (WSt.loc (us := [some (.int t)]) (by rw [hnm]; exact .head) ?_)
    refine WIf.one (WT.cmp ?_ hm)
    refine WE.sub (ge _ _ ?_)
    refine WE.loc (by rw [hnm]; exact .head) ?_ hd
    refine item_nat he (getD_at (by omega)) (by omega) ?_
    refine WE.loc (by rw [hnm]; exact .head) ?_ hd
    refine cmp_lt (tr_bool ?_)
    have hs : List.range (t + 1) = List.range t ++ [t] := List.range_succ
    refine ⟨fun hc => ?_, fun hc => ?_⟩
    · have h1 : other.getD t 0 < t := by
        have : ((other.getD t 0 : Nat) : Int) < (t : Int) := of_decide_eq_true hc
        omega
      refine WE.loc (by rw [hnm]; exact .head) ?_ hd
      refine ⟨rfl, ?_⟩
      rw [hs, List.filter_append, List.filter_cons, if_pos (decide_eq_true h1)]
      simp only [vN, List.filter_nil, List.map_append, List.map_cons, List.map_nil]
    · have h1 : ¬ other.getD t 0 < t := by
        have : ¬ ((other.getD t 0 : Nat) : Int) < (t : Int) := of_decide_eq_false hc
        omega
      refine ⟨rfl, ?_⟩
      rw [hs, List.filter_append, List.filter_cons, if_neg (by simpa using h1)]
      simp
  · rintro out H d H' ⟨rfl, rfl⟩ nd xd fd
    rw [rg10] at fd
    exact hΨ d H' xd nd fd
theorem fin_some {other : List Nat} (h : fin other = true) : ∃ rc cols re made, colRun other 10 (List.replicate 6 [], List.replicate 10 0) = some (rc, cols) ∧ excRun other cols 10 0 (List.replicate 6 [], List.replicate 10 0) = some (re, made) ∧ cols.length = 10 ∧ made.length = 10 ∧ (∀ g, g < 9 → most made (g + 1) = (most other (g + 1)).reverse) ∧ closed made = closed other := by
  unfold fin at h
  split at h
  · cases h
  · rename_i cols made he
    unfold exch at he
    obtain ⟨⟨rc, c⟩, h1, he⟩ := Option.bind_eq_some_iff.mp he
    obtain ⟨⟨re, m⟩, h2, he⟩ := Option.map_eq_some_iff.mp he
    cases he
    simp only [Bool.and_eq_true, List.all_eq_true, beq_iff_eq] at h
    obtain ⟨⟨⟨h3, h4⟩, h5⟩, h6⟩ := h
    exact ⟨rc, _, re, _, h1, h2, h3, h4, fun g hg => h5 g (List.mem_range.mpr hg), h6⟩
set_option maxHeartbeats 0 in
theorem law1_ok {B : Base} {k a : Nat} {code : Str → Nat} (D : Def1 B 66 a .none .none) (G : Law1 B code) (hfin : allOut fin 10 0 [] (List.replicate 10 0) = true) {H : Hp} {l : Addr} {xs : List Int} {Φ : V → Hp → Prop} (hl : Lst H l (vI xs)) (hx : ∀ H', Ext H H' → Lst H' l (vI xs)) (hz : xs.length ≤ sizeLine) (h : ∀ H', Ext H H' → Φ (.bool true) H') : WC B (k + 6) (.ref a) [.ref l] H Φ := by
  have b := G.b
  have C := G.C
  obtain ⟨a0, a1, ae, RD, ac, Dc, mc, at', Dt, mt, ar, Dr, mr⟩ := G.read
  obtain ⟨abr, aco, gbr, Dco, mco⟩ := G.cols
  obtain ⟨abl, aex, gbl, Dex, mex⟩ := G.exch
  obtain ⟨amo, Dmo, mmo⟩ := G.most
  obtain ⟨adr, Ddr, mdr⟩ := G.drawn
  obtain ⟨g1, g2, g3, g4, g5, g6, g7, g8⟩ := id b
  refine WC.defC D ?_ (names := ["script", "text", "ties", "gap", "closed"]) (vs0 := [none, none, none, none, none]) (bs := [("script", .ref l)]) (binding_plain (names := ["script"]) rfl ?_) (xs := ["signs", "drawn", "code", "hidden", "made"]) (by decide +kernel) (by with_unfolding_all rfl) ?_
  · walk_at "LK"
  · walk_at "B1"
  intro cs H0 hcl hnd hcn x0 hcc
  obtain ⟨c1, c2, c3, c4, c5, rfl⟩ : ∃ c1 c2 c3 c4 c5, cs = [c1, c2, c3, c4, c5] := by
    match cs, hcl with
    | [c1, c2, c3, c4, c5], _ => exact ⟨_, _, _, _, _, rfl⟩
  have C0 : Cels H H0 [c1, c2, c3, c4, c5] [none, none, none, none, none] := Cels.start hnd hcn hcc
  clear hcl hnd hcn hcc
  simp only [List.zip_cons_cons, List.zip_nil_right]
  repeat walk_at "M"
  -- signs, drawn = _law_drawn(...)
  refine sl_uptoN (n := 63) (hx _ x0) (by simpa using hz) fun z1 H1 n1 e1 f1 => ?_
  repeat walk_at "M"
  refine call_sum (ns := xs.take 63) (.of (by rw [f1]; simp [vI])) ?_
  repeat walk_at "M"
  refine bin_mod (by decide) ?_
  obtain ⟨cd, hcd⟩ : ∃ n : Nat, ((xs.take 63).sum + 13875848).fmod 1073741824 = n := Int.eq_ofNat_of_zero_le (Int.fmod_nonneg_of_pos _ (by decide))
  rw [hcd]
  repeat walk_at "M"
  refine ⟨Ddr.callee _, fun _ i => ?_⟩
  cases i
  refine WO.le (drawn_ok (k := k) Ddr b hfin fun H2 t r1 r2 ns other x2 f2 s1 s2 m1 m2 T hf => ?_) (by omega)
  have x02 : Ext H H2 := x0.trans (e1.trans x2)
  have C2 := C0.ext (e1.trans x2)
  have nr1 : H r1 = none := (x0.trans e1).new m1
  have nr2 : H r2 = none := (x0.trans e1).new m2
  refine WA.tup f2 ?_
  repeat walk_at "M"
  refine WSt.cel (c := c1) (by simp) (C2.get (i := 0) rfl rfl) ?_ (by dsimp only; decide +kernel)
  have C3 := C2.set (i := 0) rfl (.ref r1)
  have s13 := C2.keep (c := c1) (by simp) s1 (o := .cell (some (.ref r1)))
  have s23 := C2.keep (c := c1) (by simp) s2 (o := .cell (some (.ref r1)))
  have x3 : Ext H (put H2 c1 (.cell (some (.ref r1)))) := x02.put _ (C2.new c1 (by simp))
  generalize put H2 c1 (.cell (some (.ref r1))) = H3 at C3 s13 s23 x3
  repeat walk_at "M"
  refine WSt.cel (c := c2) (by simp) (C3.get (i := 1) rfl rfl) ?_ (by dsimp only; decide +kernel)
  have C4 := C3.set (i := 1) rfl (.ref r2)
  have s14 := C3.keep (c := c2) (by simp) s13 (o := .cell (some (.ref r2)))
  have s24 := C3.keep (c := c2) (by simp) s23 (o := .cell (some (.ref r2)))
  have x4 : Ext H (put H3 c2 (.cell (some (.ref r2)))) := x3.put _ (C3.new c2 (by simp))
  generalize put H3 c2 (.cell (some (.ref r2))) = H4 at C4 s14 s24 x4
  simp only [List.set_cons_succ, List.set_cons_zero] at C4
  clear C0 C2 C3 s1 s2 s13 s23 x3 x02 x2 f2 m1 m2 e1 f1 n1
  -- code
  repeat walk_at "M"
  refine sl_step (ns := xs) (n := 63) (st := 2) (hx _ x4) hz (by decide) fun z2 ms n5 => ?_
  have f5 : put H4 z2 (.list (vI ms)) z2 = some (.list (vI ms)) := put_self _ _ _
  have e5 : Ext H4 (put H4 z2 (.list (vI ms))) := Ext.self n5 _
  generalize put H4 z2 (.list (vI ms)) = H5 at f5 e5
  repeat walk_at "M"
  refine call_sum (.of f5) ?_
  repeat walk_at "M"
  refine bin_mod (by decide) ?_
  obtain ⟨q, hq⟩ : ∃ n : Nat, (ms.sum + 3).fmod 50 = n := Int.eq_ofNat_of_zero_le (Int.fmod_nonneg_of_pos _ (by decide))
  have hq50 : q < 50 := by
    have := Int.fmod_lt_of_pos (ms.sum + 3) (show (0 : Int) < 50 by decide)
    rw [hq] at this; omega
  rw [hq]
  have C5 := C4.ext e5
  refine WSt.cel (c := c3) (by simp) (C5.get (i := 2) rfl rfl) ?_ (by dsimp only; decide +kernel)
  have C6 := C5.set (i := 2) rfl (.int q)
  have s16 := C5.keep (c := c3) (by simp) (e5 _ _ s14) (o := .cell (some (.int q)))
  have s26 := C5.keep (c := c3) (by simp) (e5 _ _ s24) (o := .cell (some (.int q)))
  have x6 : Ext H (put H5 c3 (.cell (some (.int q)))) := (x4.trans e5).put _ (C5.new c3 (by simp))
  generalize put H5 c3 (.cell (some (.int q))) = H6 at C6 s16 s26 x6
  simp only [List.set_cons_succ, List.set_cons_zero] at C6
  have k3 := C6.get (i := 2) rfl rfl
  repeat walk_at "M"
  refine ⟨by show 5 ≤ sizeLine; decide +kernel, fun z3 H7 n7 e7 f7 => ?_⟩
  have k3 := e7 _ _ k3
  repeat walk_at "M"
  refine bin_divn (j := 10) (by omega) (by omega) ?_
  refine item_list (.of f7) (by omega) (by omega) (hid_get (i := q / 10) (by omega)) ?_
  have C7 := C6.ext e7
  refine WSt.cel (c := c4) (by simp) (C7.get (i := 3) rfl rfl) ?_ (by dsimp only; decide +kernel)
  have C8 := C7.set (i := 3) rfl (.str (hidS (q / 10)))
  have s18 := C7.keep (c := c4) (by simp) (e7 _ _ s16) (o := .cell (some (.str (hidS (q / 10)))))
  have s28 := C7.keep (c := c4) (by simp) (e7 _ _ s26) (o := .cell (some (.str (hidS (q / 10)))))
  have x8 : Ext H (put H7 c4 (.cell (some (.str (hidS (q / 10)))))) := (x6.trans e7).put _ (C7.new c4 (by simp))
  generalize put H7 c4 (.cell (some (.str (hidS (q / 10))))) = H8 at C8 s18 s28 x8
  simp only [List.set_cons_succ, List.set_cons_zero] at C8
  clear C4 C5 C6 C7 s14 s24 s16 s26 x4 x6 e5 e7 f5 f7 n5 n7 k3
  have k1 := C8.get (i := 0) rfl rfl
  have k3 := C8.get (i := 2) rfl rfl
  have k4 := C8.get (i := 3) rfl rfl
  have hq10 : q % 10 < 10 := Nat.mod_lt _ (by decide)
  have hnl := T.nl
  repeat walk_at "M"
  refine ⟨mty_str, ?_⟩
  repeat walk_at "M"
  refine WE.comp [("code", c3), ("hidden", c4), ("signs", c1)] ["place"] [none] ?_ ?_ ?_
  · show CLooks _ (sScope (at1 66)) ["code", "hidden", "signs"] _ _
    walk_at "CL"
  · intro p hp
    simp only [List.mem_cons, List.not_mem_nil, or_false] at hp ⊢
    rcases hp with rfl | rfl | rfl <;> simp
  refine WIt.rangeN 0 10 1 ?_
  repeat walk_at "M"
  intro z4 H9 n9 e9 f9
  have k1 := e9 _ _ k1
  have k3 := e9 _ _ k3
  have k4 := e9 _ _ k4
  have s19 := e9 _ _ s18
  refine ⟨z4, rfl, f9, by decide +kernel, by decide +kernel, CompOk.new (fun i out H' => H' = H9 ∧ out = vS ((List.range i).map (cell1 ns (q % 10) (q / 10)))) (by rw [rg10]; decide +kernel) ⟨rfl, rfl⟩ (fun _ _ _ _ => trivial) ?_ ?_⟩
  · rintro p out H' v H10 hp ⟨rfl, rfl⟩ ⟨rfl, rfl⟩
    rw [rg10] at hp
    simp only [Int.zero_add, Int.mul_one]
    have hs : List.range (p + 1) = List.range p ++ [p] := List.range_succ
    have hfin' : ∀ y : Str, y = cell1 ns (q % 10) (q / 10) p → vS ((List.range p).map (cell1 ns (q % 10) (q / 10))) ++ [V.str y] = vS ((List.range (p + 1)).map (cell1 ns (q % 10) (q / 10))) := fun y hy => by
      rw [hs, hy]; simp only [vS, List.map_append, List.map_cons, List.map_nil]
    have hcl : ∀ y : Str, y.length ≤ 5 → (sign (ns.getD p 0)).length + y.length ≤ sizeLine := fun y hy => by
      have : (sign (ns.getD p 0)).length = 1 := rfl
      rw [this]; exact Nat.le_trans (by omega : _ ≤ 6) (by decide +kernel)
    repeat walk_at "M"
    refine item_list (.of s19) (by omega) (by omega) (v := .str (sign (ns.getD p 0))) (at_sign (getD_at (show p < ns.length by omega))) ?_
    repeat walk_at "M"
    refine bin_modn (j := 10) (by omega) ?_
    repeat walk_at "M"
    refine ⟨fun hc => ?_, fun hc => ?_⟩
    · have hpq : p = q % 10 := by
        have : (p : Int) = ((q % 10 : Nat) : Int) := of_decide_eq_true hc
        omega
      repeat walk_at "M"
      refine bin_adds (hcl _ (by unfold hidS hid Str.length; split; decide; split; decide; split; decide; split <;> decide)) ⟨rfl, hfin' _ ?_⟩
      unfold cell1; rw [if_pos hpq]
    · have hpq : ¬ p = q % 10 := by
        have : ¬ (p : Int) = ((q % 10 : Nat) : Int) := of_decide_eq_false hc
        omega
      repeat walk_at "M"
      refine bin_adds (hcl _ (by decide +kernel)) ⟨rfl, hfin' _ ?_⟩
      unfold cell1; rw [if_neg hpq]
  rintro out H10 d H11 ⟨rfl, rfl⟩ nd xd fd
  rw [rg10] at fd
  repeat walk_at "M"
  refine call_join (.of fd) (text_join ns _ _) ?_
  obtain ⟨PT, hread⟩ := text_ok C T (q := q % 10) (i := q / 10) hq10
  have C11 := C8.ext (e9.trans xd)
  have s211 := (e9.trans xd) _ _ s28
  have x11 := x8.trans (e9.trans xd)
  generalize Txt.join "" ((List.range 10).map (cell1 ns (q % 10) (q / 10))) = text at PT hread
  repeat walk_at "M"
  refine ⟨Dr.callee _, fun _ i => ?_⟩
  cases i
  refine read_ok Dr RD PT fun H12 rr x12 nrr frr => ?_
  rw [hread] at frr
  repeat walk_at "M"
  refine ⟨Dt.callee _, fun _ i => ?_⟩
  cases i
  refine ties_ok Dt b RD Dc mc frr T fun H13 rt x13 nrt frt => ?_
  repeat walk_at "M"
  refine ⟨Dco.callee _, fun _ i => ?_⟩
  cases i
  obtain ⟨rc, cols, re, made, hcr, her, hcl, hml, hmost, hclosed⟩ := fin_some hf
  refine cols_ok Dco b gbr frt T.ol hcr fun H14 rco x14 nrco frco => ?_
  repeat walk_at "M"
  refine ⟨Dex.callee _, fun _ i => ?_⟩
  cases i
  refine exc_ok Dex b gbl (x14 _ _ frt) frco T.ol hcl her fun H15 rm x15 nrm frm => ?_
  have xx := x12.trans (x13.trans (x14.trans x15))
  have C15 := C11.ext xx
  have s215 := xx _ _ s211
  have x15' := x11.trans xx
  refine WSt.cel (c := c5) (by simp) (C15.get (i := 4) rfl rfl) ?_ (by dsimp only; decide +kernel)
  have C16 := C15.set (i := 4) rfl (.ref rm)
  have s216 := C15.keep (c := c5) (by simp) s215 (o := .cell (some (.ref rm)))
  have fm16 := C15.keep (c := c5) (by simp) frm (o := .cell (some (.ref rm)))
  have x16 : Ext H (put H15 c5 (.cell (some (.ref rm)))) := x15'.put _ (C15.new c5 (by simp))
  generalize put H15 c5 (.cell (some (.ref rm))) = H16 at C16 s216 fm16 x16
  simp only [List.set_cons_succ, List.set_cons_zero] at C16
  clear C8 C11 C15 s18 s28 s211 s215 x8 x11 x12 x13 x14 x15 x15' xx frr frt frco frm fd xd nd e9 n9 f9 k1 k3 k4 s19 nrr nrt nrco nrm
  repeat walk_at "M"
  have rg9 : rgCount 1 10 1 = 9 := by decide +kernel
  refine WSs.for (WIt.rangeN 1 10 1 ?_)
  repeat walk_at "M"
  intro z5 H17 n17 e17 f17
  have hol := T.ol
  refine ⟨z5, rfl, f17, by decide +kernel, by decide +kernel, fun i vars H' => Ext H16 H' ∧ ∃ o1 o2 o3 o4 : Option V, vars = [some (.ref l), o1, o2, o3, o4], ?_, ?_, ?_, ?_⟩
  · exact ⟨e17, _, _, _, _, rfl⟩
  · exact fun _ _ _ _ => trivial
  · rintro i vars H' v H18 hi ⟨x18, o1, o2, o3, o4, rfl⟩ ⟨rfl, rfl⟩
    rw [rg9] at hi
    have hg : (1 + (i : Int) * 1) = ((i + 1 : Nat) : Int) := by omega
    rw [hg]
    have k5 := (C16.ext x18).get (i := 4) rfl rfl
    have k2 := (C16.ext x18).get (i := 1) rfl rfl
    repeat walk_at "M"
    refine ⟨Dmo.callee _, fun _ ii => ?_⟩
    cases ii
    refine WO.le (k := k + 1) (most_ok (k := k) (gap := i + 1) Dmo b (x18 _ _ fm16) hml (by omega) fun H19 ra x19 na fa => ?_) (by omega)
    have k2 := x19 _ _ k2
    repeat walk_at "M"
    refine ⟨Dmo.callee _, fun _ ii => ?_⟩
    cases ii
    refine WO.le (k := k + 1) (most_ok (k := k) (gap := i + 1) Dmo b ((x18.trans x19) _ _ s216) hol (by omega) fun H20 rb x20 nb fb => ?_) (by omega)
    repeat walk_at "M"
    refine sl_revN (.of fb) (by rw [List.length_map]; show 2 ≤ sizeLine; decide +kernel) fun z6 H21 n21 e21 f21 => ?_
    have f21' : H21 z6 = some (.list (vN (most other (i + 1)).reverse)) := by rw [f21]; simp [vN]
    refine ne_nats ((x20.trans e21) _ _ fa) f21' ?_
    repeat walk_at "M"
    refine ⟨fun hc => ?_, fun hc => ?_⟩
    · rw [hmost i hi] at hc
      simp at hc
    · repeat walk_at "M"
      exact ⟨x18.trans (x19.trans (x20.trans e21)), _, _, _, _, rfl⟩
  · rintro vars H' ⟨x18, o1, o2, o3, o4, rfl⟩
    have k2 := (C16.ext x18).get (i := 1) rfl rfl
    have k5 := (C16.ext x18).get (i := 4) rfl rfl
    repeat walk_at "M"
    refine WSs.assignC [("drawn", c2)] ["place"] [none] ?_ ?_ ?_ ?_
    · show CLooks _ (sScope (at1 66)) ["drawn"] _ _
      walk_at "CL"
    · intro p hp
      simp only [List.mem_cons, List.not_mem_nil, or_false] at hp ⊢
      rcases hp with rfl; simp
    case refine_4 => walk_at "SW"
    refine WIt.rangeN 0 10 1 ?_
    repeat walk_at "M"
    intro z7 H18 n18 e18 f18
    have k2 := e18 _ _ k2
    have k5 := e18 _ _ k5
    refine ⟨z7, rfl, f18, by decide +kernel, by decide +kernel, comp_closed hol rfl ((x18.trans e18) _ _ s216) (fun v Φ q => WE.cel (by simp) k2 q) (by with_unfolding_all rfl) (by decide +kernel) fun d H19 e19 n19 f19 => ?_⟩
    have k5 := e19 _ _ k5
    repeat walk_at "M"
    refine WE.comp [("made", c5)] ["place"] [none] ?_ ?_ ?_
    · show CLooks _ (sScope (at1 66)) ["made"] _ _
      walk_at "CL"
    · intro p hp
      simp only [List.mem_cons, List.not_mem_nil, or_false] at hp ⊢
      rcases hp with rfl; simp
    refine WIt.rangeN 0 10 1 ?_
    repeat walk_at "M"
    intro z8 H20 n20 e20 f20
    have k5 := e20 _ _ k5
    have xm := x18.trans (e18.trans (e19.trans e20))
    refine ⟨z8, rfl, f20, by decide +kernel, by decide +kernel, comp_closed hml rfl (xm _ _ fm16) (fun v Φ q => WE.cel (by simp) k5 q) (by with_unfolding_all rfl) (by decide +kernel) fun d2 H21 e21 n21 f21 => ?_⟩
    repeat walk_at "M"
    refine eq_nats f21 ((e20.trans e21) _ _ f19) ?_
    rw [hclosed, decide_eq_true rfl]
    repeat walk_at "M"
    exact h _ (x16.trans (xm.trans e21))
end
section
/-! the base: what the top left, told by a fragment of the heap -/
def fdIn (K : Frag) (a : Addr) : Option FuncData := match K.lookup a with | some ⟨_, _, .func fd, _⟩ => some fd | _ => none
def cdName (K : Frag) (c : Addr) : Option Str := match K.lookup c with | some ⟨_, _, Data.fields vs, _⟩ => (match (vs[1]? : Option Value) with | some (Value.str q _) => some q | _ => none) | _ => none
abbrev FdT : Type := Arguments × FuncBody × Scope × Addr × List (Str × Addr) × Value × Value × Addr × Value
def fdT (fd : FuncData) : FdT := (fd.params, fd.body, fd.scope, fd.globals, fd.closure, fd.defaults, fd.kwdefaults, fd.builtins, fd.code)
structure FdOk (K : Frag) (a c : Addr) (st : Stmt) (dv kdv : Value) : Prop where
  fd : (fdIn K a).map fdT = some (sArgs st, .stmts (sBody st), sScope st, mainGlobals, [], dv, kdv, builtinsNs, .ref c)
  cd : cdName K c = (fdIn K a).map (·.qualname)
theorem defAt_of {B : Base} {K : Frag} {a c : Addr} {st : Stmt} {dv kdv : Value} {g : Bool} (hB : ∀ a o, K.lookup a = some o → B.obj a = some o) (h : FdOk K a c st dv kdv) (hg : (sScope st).isGenerator = g) (hco : (sScope st).isCoroutine = false) (hk : (sScope st).kind = .function) :
    DefAt B a (sArgs st) (sBody st) (sScope st) dv kdv g := by
  obtain ⟨h1, h2⟩ := h
  cases e : fdIn K a with
  | none => rw [e] at h1; cases h1
  | some fd =>
    rw [e] at h1 h2
    have e1 : fdT fd = _ := Option.some.inj h1
    have e2 : cdName K c = some fd.qualname := h2
    unfold fdIn at e
    unfold cdName at e2
    split at e
    · rename_i cls d fd' sl hl
      cases e
      split at e2
      · rename_i cls' d' vs sl' hl'
        split at e2
        · rename_i q t hq
          cases e2
          simp only [fdT, Prod.mk.injEq] at e1
          obtain ⟨p1, p2, p3, p4, p5, p6, p7, p8, p9⟩ := e1
          exact ⟨_, _, hB _ _ hl, rfl, p1, p2, p3, p4, p5, p6, p7, p8, hg, hco, hk, c, _, vs, t, p9, hB _ _ hl', rfl, hq⟩
        · cases e2
      · cases e2
    · cases e
theorem mg_no {K : Frag} {h : Heap} {mg : Str → Option Value} {n : Str} (X : K.In h) (G : h.Ns mainGlobals mg) (e : nsIn K mainGlobals n = some none) : mg n = none := by
  obtain ⟨o, es, ep, ho, hd, _, hf⟩ := G
  unfold nsIn at e
  split at e
  · rename_i c d es' n' sl q
    have := X _ _ q
    rw [ho] at this
    cases this
    cases hd
    rw [← hf n]
    split at e
    · cases e
    · rename_i hfi
      unfold nsFind findBy
      rw [← Array.find?_toList, hfi]; rfl
  · cases e
def hashOf (P : Params) (e : DictEntry) : Int := match e.key with | .str x _ => PyData.keyHash P x | _ => e.hash
def isKey (e : DictEntry) : Bool := match e.key with | .str _ _ => true | _ => false
theorem keysLit_of {P : Params} : ∀ {l : List DictEntry}, l.map (·.hash) = l.map (hashOf P) → l.all isKey = true → KeysLit P l
  | [], _, _ => trivial
  | e :: r, h, g => by
    rw [List.map_cons, List.map_cons] at h
    injection h with h1 h2
    rw [List.all_cons, Bool.and_eq_true] at g
    refine ⟨?_, keysLit_of h2 g.2⟩
    have g1 := g.1
    unfold isKey at g1
    unfold hashOf at h1
    split at g1
    · rename_i x t hx
      rw [hx] at h1
      exact ⟨x, t, hx, h1⟩
    · cases g1
def esOf (K : Frag) (d : Addr) : Array DictEntry := match K.lookup d with | some ⟨_, _, .dict es _, _⟩ => es | _ => #[]
def epOf (K : Frag) (d : Addr) : Nat := match K.lookup d with | some ⟨_, _, .dict _ n, _⟩ => n | _ => 0
def tabVal (K : Frag) (d : Addr) (y : Str) : Option Value := findBy Value.isStrOf (esOf K d) y
def tabCode (K : Frag) (d : Addr) (y : Str) : Nat := match tabVal K d y with | some (.int n _) => n.toNat | _ => 0
def isNat (e : DictEntry) : Bool := match e.val with | .int n _ => decide (0 ≤ n) | _ => false
theorem tabCode_ok {K : Frag} {d : Addr} (h : (esOf K d).toList.all isNat = true) (y : Str) : (∀ z, tabVal K d y = some z → ∃ t, z = .int (tabCode K d y) t) ∧ (tabVal K d y = none → tabCode K d y = 0) := by
  refine ⟨fun z hz => ?_, fun hz => by unfold tabCode; rw [hz]⟩
  have hz' := hz
  unfold tabVal findBy at hz'
  rw [Option.map_eq_some_iff] at hz'
  obtain ⟨e, he, rfl⟩ := hz'
  have hm : e ∈ (esOf K d).toList := by
    rw [← Array.find?_toList] at he
    exact List.mem_of_find?_eq_some he
  have := List.all_eq_true.mp h e hm
  unfold isNat at this
  split at this
  · rename_i n t hv
    refine ⟨t, ?_⟩
    unfold tabCode
    rw [hz, hv]
    have : 0 ≤ n := of_decide_eq_true this
    show Value.int n t = .int ((n.toNat : Nat) : Int) t
    rw [Int.toNat_of_nonneg this]
  · cases this
/-- the base of a heap, without the script -/
def baseOf (prog : Program) (w : World) (h : Heap) (S : Addr) (mg mb : Str → Option Value) (hg : h.Ns mainGlobals mg) (hb : h.Ns builtinsNs mb) (hn : h.NoLimit) (n1 : mainGlobals ≠ S) (n2 : builtinsNs ≠ S) (n3 : cStatics ≠ S) : Base where
  prog := prog
  w := w
  obj a := if a = S then none else h.get? a
  mg := mg
  mb := mb
  limit h' x := by
    obtain ⟨mc, ⟨o, es, ep, e, r⟩, q⟩ := hn
    exact ⟨mc, ⟨o, es, ep, x _ _ (by rw [if_neg n3]; exact e), r⟩, q⟩
  glob h' x := by
    obtain ⟨o, es, ep, e, r⟩ := hg
    exact ⟨o, es, ep, x _ _ (by rw [if_neg n1]; exact e), r⟩
  blt h' x := by
    obtain ⟨o, es, ep, e, r⟩ := hb
    exact ⟨o, es, ep, x _ _ (by rw [if_neg n2]; exact e), r⟩
theorem tab_of {B : Base} {K : Frag} {d : Addr} {n : Nat} (hB : ∀ a o, K.lookup a = some o → B.obj a = some o) (hd : (d == sysModules) = false) (hl : K.lookup d = some ⟨.type "dict", none, .dict (esOf K d) n, #[]⟩) (hk : KeysLit B.w.params (esOf K d).toList) : Tab B d (tabVal K d) :=
  ⟨hd, fun h x => mapOf_K (K := K) (fun a o e => x a o (hB a o e)) hl hk⟩
end
section
/-! what is looked at behind the top, told by one equation -/
structure DR where
  n : Nat
  name : Str
  a : Addr
  c : Addr
  dv : Value
  kdv : Value
def DR.seen (K : Frag) (d : DR) : Option (Option Value) × Option FdT × Bool := (nsIn K mainGlobals d.name, (fdIn K d.a).map fdT, decide (cdName K d.c = (fdIn K d.a).map (·.qualname)))
def DR.want (d : DR) : Option (Option Value) × Option FdT × Bool := (some (some (.ref d.a)), some (sArgs (at1 d.n), .stmts (sBody (at1 d.n)), sScope (at1 d.n), mainGlobals, [], d.dv, d.kdv, builtinsNs, .ref d.c), true)
def fragAt (as : List Addr) (s : Shared) : Frag := as.filterMap fun a => (s.heap.get? a).map fun o => (a, o)
theorem lookup_map : ∀ {as : List Addr} {f : Addr → Option Obj} {a : Addr} {o : Obj}, (as.filterMap fun a => (f a).map fun o => (a, o)).lookup a = some o → a ∈ as ∧ f a = some o
  | [], _, _, _, h => nomatch h
  | b :: r, f, a, o, h => by
    rw [List.filterMap_cons] at h
    cases q : f b with
    | none =>
      rw [q] at h
      obtain ⟨h1, h2⟩ := lookup_map (as := r) h
      exact ⟨.tail _ h1, h2⟩
    | some x =>
      rw [q] at h
      have h' : (match a == b with | true => some x | false => List.lookup a (r.filterMap fun a => (f a).map fun o => (a, o))) = some o := h
      cases e : a == b with
      | true =>
        rw [e] at h'
        rw [eq_of_beq e]
        exact ⟨.head _, by rw [q]; exact h'⟩
      | false =>
        rw [e] at h'
        obtain ⟨h1, h2⟩ := lookup_map (as := r) h'
        exact ⟨.tail _ h1, h2⟩
theorem fragAt_in {as : List Addr} {s : Shared} : (fragAt as s).In s.heap := fun _ _ e => (lookup_map e).2
theorem map_at {α β : Type} {f g : α → β} : ∀ {l : List α}, l.map f = l.map g → ∀ {i : Nat} {x : α}, l[i]? = some x → f x = g x
  | [], _, _, _, h => nomatch h
  | a :: r, h, i, x, hx => by
    rw [List.map_cons, List.map_cons] at h
    injection h with h1 h2
    cases i with
    | zero => cases hx; exact h1
    | succ i => exact map_at h2 (i := i) (by simpa using hx)
def dictAt (K : Frag) (a : Addr) : Option (Value × Option Addr × Array (Option Value)) := match K.lookup a with | some ⟨c, d, .dict _ _, sl⟩ => some (c, d, sl) | _ => none
theorem dictAt_of {K : Frag} {a : Addr} {c : Value} {d : Option Addr} {sl : Array (Option Value)} (h : dictAt K a = some (c, d, sl)) : K.lookup a = some ⟨c, d, .dict (esOf K a) (epOf K a), sl⟩ := by
  unfold dictAt at h
  split at h
  · rename_i c' d' es n sl' q
    cases h
    have e1 : esOf K a = es := by unfold esOf; rw [q]
    have e2 : epOf K a = n := by unfold epOf; rw [q]
    rw [e1, e2]; exact q
  · cases h
def keyOf (e : DictEntry) : Str := match e.key with | .str x _ => x | _ => ⟨#[]⟩
theorem hashes_of {P : Params} {l : List DictEntry} {ks : List Str} (h1 : l.map (·.hash) = ks.map (PyData.keyHash P)) (h2 : l.map keyOf = ks) (h3 : l.all isKey = true) : l.map (·.hash) = l.map (hashOf P) := by
  rw [h1, ← h2, List.map_map]
  refine List.map_congr_left fun e he => ?_
  have := List.all_eq_true.mp h3 e he
  unfold isKey at this
  show PyData.keyHash P (keyOf e) = hashOf P e
  unfold hashOf keyOf
  split at this
  · rename_i x t hx; first | rfl | rw [hx]
  · cases this
def strKeys : Stmt → List Str
  | .Assign _ (.Dict ks _ _) _ => ks.map fun k => match k with | some (.Constant (.str x) _ _) => x | _ => ⟨#[]⟩
  | _ => []
def defs1 : List DR := [⟨1, "bisect_right", 23, 22, .ref 15, .ref 16⟩, ⟨2, "bisect_left", 32, 31, .ref 24, .ref 25⟩, ⟨4, "_iter_escaped_chars", 39, 38, .none, .none⟩, ⟨5, "_strip_quoted_realnames", 46, 45, .none, .none⟩, ⟨6, "_check_parenthesis", 53, 52, .none, .none⟩, ⟨58, "ISEOF", 63, 62, .none, .none⟩, ⟨60, "_law_drawn", 68, 67, .none, .none⟩, ⟨61, "_law_read", 73, 72, .none, .none⟩, ⟨62, "_law_ties", 78, 77, .none, .none⟩, ⟨63, "_law_columns", 83, 82, .none, .none⟩, ⟨64, "_law_exchanged", 88, 87, .none, .none⟩, ⟨65, "_law_most", 93, 92, .none, .none⟩, ⟨66, "law", 98, 97, .none, .none⟩]
def no1 : List Str := ["len", "sum", "max", "range", "enumerate"]
def as1 : List Addr := mainGlobals :: [15, 16, 22, 23, 24, 25, 31, 32, 38, 39, 45, 46, 52, 53, 54, 62, 63, 67, 68, 72, 73, 77, 78, 82, 83, 87, 88, 92, 93, 97, 98]
def kObj (P : Params) (t : Tok) : Obj := { cls := .type "dict", data := .dict #[{ hash := PyData.keyHash P "key", key := .str "key" t, val := .none }] 1 }
def dObj (t : Tok) : Obj := { cls := .type "tuple", data := .seq #[.int 0 t, .none] }
abbrev Obs1 : Type := Nat × List (Option (Option Value) × Option FdT × Bool) × List (Option (Option Value)) × List (Option (Option Value)) × Option (Value × Option Addr × Array (Option Value)) × List Int × List Str × List Bool × List Nat × List Nat × List (Option Obj)
def obsK (K : Frag) (n : Nat) : Obs1 :=
  (n, defs1.map (DR.seen K), no1.map (nsIn K mainGlobals), [nsIn K mainGlobals "ENDMARKER", nsIn K mainGlobals "EXACT_TOKEN_TYPES"], dictAt K 54, (esOf K 54).toList.map (·.hash), (esOf K 54).toList.map keyOf,
   [(esOf K 54).toList.all isKey, (esOf K 54).toList.all isNat], [7, 8, 9, 10, 25, 26, 20, 21].map (fun n => tabCode K 54 ⟨#[chr n]⟩), [tabCode K 54 ⟨#[92, 93]⟩, tabCode K 54 ⟨#[92, 34]⟩, tabCode K 54 ⟨#[92, 92]⟩],
   [K.lookup 15, K.lookup 16, K.lookup 24, K.lookup 25])
def obs1 (s : Shared) : Obs1 := obsK (fragAt as1 s) s.heap.objs.size
def val1 (w : World) : Obs1 :=
  (99, defs1.map DR.want, no1.map (fun _ => some none), [some (some (.int 0 253)), some (some (.ref 54))], some (.type "dict", none, #[]), (strKeys (at1 57)).map (PyData.keyHash w.params), strKeys (at1 57),
   [true, true], [7, 8, 9, 10, 25, 26, 20, 21], [0, 0, 0], [some (dObj 189), some (kObj w.params 190), some (dObj 203), some (kObj w.params 204)])
end
set_option maxHeartbeats 0
section
theorem brk_all {n : Nat} (h : Brk n) : n ∈ [7, 8, 9, 10, 25, 26, 20, 21] := by
  obtain ⟨κ, hκ, h⟩ := h
  have : ∀ κ < 4, base κ ∈ [7, 8, 9, 10, 25, 26, 20, 21] ∧ base κ + 1 ∈ [7, 8, 9, 10, 25, 26, 20, 21] := by decide
  rcases h with rfl | rfl
  · exact (this κ hκ).1
  · exact (this κ hκ).2
theorem map_id {α : Type} {f : α → α} : ∀ {l : List α}, l.map f = l → ∀ x ∈ l, f x = x
  | a :: r, h, x, hx => by
    rw [List.map_cons] at h
    injection h with h1 h2
    rcases List.mem_cons.mp hx with rfl | hx
    · exact h1
    · exact map_id h2 x hx
abbrev BisArgs (K : Frag) (st : Stmt) (dv kdv : Value) (t : Tok) : Prop := ∀ (fd : FuncData) (v u : Value) (S : Setting), fd.params = sArgs st → fd.defaults = dv → fd.kwdefaults = kdv → peek K S (bindArgs fd ⟨[v, u], []⟩) = some [(("a" : Str), v), ("x", u), ("lo", .int 0 t), ("hi", .none), ("key", .none)]
theorem binding_bis {B : Base} {K : Frag} {st : Stmt} {dv kdv : Value} {t : Tok} (hB : ∀ a o, K.lookup a = some o → B.obj a = some o) (hb : BisArgs K st dv kdv t) (x y : V) :
    Binding B (sArgs st) dv kdv [] [x, y] [("a", x), ("x", y), ("lo", .int 0), ("hi", .none), ("key", .none)] := by
  intro fd P H s kvals vals hp hd hk ib o ar hkl
  have : kvals = [] := List.eq_nil_of_length_eq_zero hkl
  subst this
  have ar' : Are [x, y] vals := ar
  cases ar' with
  | cons i1 r1 => cases r1 with
    | cons i2 r2 =>
      cases r2
      exact ⟨_, kp_binds (K := K) (fun a o' e => ib.heap o _ _ (hB _ _ e)) fun S => hb fd _ _ S hp hd hk, .cons i1 (.cons i2 (.cons (.int 0 t) (.cons .none (.cons .none .nil))))⟩
def kBis (P : Params) : Frag := [(15, dObj 189), (16, kObj P 190), (24, dObj 203), (25, kObj P 204)]
theorem bis_args1 (P : Params) : BisArgs (kBis P) (at1 1) (.ref 15) (.ref 16) 189 := by
  intro fd v u S h1 h2 h3; obtain ⟨⟩ := fd; cases h1; cases h2; cases h3; kernel_rfl
theorem bis_args2 (P : Params) : BisArgs (kBis P) (at1 2) (.ref 24) (.ref 25) 203 := by
  intro fd v u S h1 h2 h3; obtain ⟨⟩ := fd; cases h1; cases h2; cases h3; kernel_rfl
theorem lookup_mem {a : Addr} {o : Obj} : ∀ {l : Frag}, l.lookup a = some o → (a, o) ∈ l
  | [], h => nomatch h
  | (b, x) :: r, h => by
    have h' : (match a == b with | true => some x | false => List.lookup a r) = some o := h
    cases e : a == b with
    | true => rw [e] at h'; cases h'; rw [eq_of_beq e]; exact .head _
    | false => rw [e] at h'; exact .tail _ (lookup_mem h')
theorem kBis_in {K : Frag} {P : Params} (h : [K.lookup 15, K.lookup 16, K.lookup 24, K.lookup 25] = [some (dObj 189), some (kObj P 190), some (dObj 203), some (kObj P 204)]) {a : Addr} {o : Obj} (e : (kBis P).lookup a = some o) : K.lookup a = some o := by
  have h' : (kBis P).map (fun p => K.lookup p.1) = (kBis P).map (fun p => some p.2) := h
  have m := lookup_mem e
  have := List.map_inj_left.mp h' _ m
  exact this
theorem scopes1 : (defs1.map fun d => ((sScope (at1 d.n)).isGenerator, (sScope (at1 d.n)).isCoroutine, (sScope (at1 d.n)).kind)) = defs1.map fun d => (d.n == 4, false, .function) := by kernel_rfl
theorem dr_def {B : Base} {K : Frag} (X : ∀ a o, K.lookup a = some o → B.obj a = some o) (h : defs1.map (DR.seen K) = defs1.map DR.want) {i : Nat} {d : DR} (hi : defs1[i]? = some d) : DefAt B d.a (sArgs (at1 d.n)) (sBody (at1 d.n)) (sScope (at1 d.n)) d.dv d.kdv (d.n == 4) := by
  have e := map_at h hi
  have s := map_at scopes1 hi
  exact defAt_of X ⟨(Prod.mk.inj (Prod.mk.inj e).2).1, of_decide_eq_true (Prod.mk.inj (Prod.mk.inj e).2).2⟩ (Prod.mk.inj s).1 (Prod.mk.inj (Prod.mk.inj s).2).1 (Prod.mk.inj (Prod.mk.inj s).2).2
theorem law1_of {B : Base} {K : Frag} {n : Nat} (X : ∀ a o, K.lookup a = some o → B.obj a = some o) (hin : ∀ n v, nsIn K mainGlobals n = some (some v) → B.mg n = some v) (hno : ∀ n, nsIn K mainGlobals n = some none → B.mg n = none) (E : obsK K n = val1 B.w)
    (b1 : B.mb "len" = some (.builtin "len")) (b2 : B.mb "sum" = some (.builtin "sum")) (b3 : B.mb "max" = some (.builtin "max")) (b4 : B.mb "range" = some (.type "range")) (b5 : B.mb "enumerate" = some (.type "enumerate")) :
    Law1 B (tabCode K 54) ∧ Def1 B 66 98 .none .none := by
  obtain ⟨_, E⟩ := Prod.mk.inj E
  obtain ⟨eD, E⟩ := Prod.mk.inj E
  obtain ⟨eN, E⟩ := Prod.mk.inj E
  obtain ⟨eV, E⟩ := Prod.mk.inj E
  obtain ⟨eT, E⟩ := Prod.mk.inj E
  obtain ⟨eH, E⟩ := Prod.mk.inj E
  obtain ⟨eK, E⟩ := Prod.mk.inj E
  obtain ⟨eB, E⟩ := Prod.mk.inj E
  obtain ⟨t0, E⟩ := Prod.mk.inj E
  obtain ⟨t1, eO⟩ := Prod.mk.inj E
  obtain ⟨vE, eV⟩ := List.cons.inj eV
  have vT := (List.cons.inj eV).1
  obtain ⟨kT, eB⟩ := List.cons.inj eB
  have nT := (List.cons.inj eB).1
  obtain ⟨u1, t1⟩ := List.cons.inj t1
  obtain ⟨u2, t1⟩ := List.cons.inj t1
  have u3 := (List.cons.inj t1).1
  have nm : ∀ {i : Nat} {d : DR}, defs1[i]? = some d → B.mg d.name = some (.ref d.a) := fun hi => hin _ _ (Prod.mk.inj (map_at eD hi)).1
  have nn : ∀ {i : Nat} {x : Str}, no1[i]? = some x → B.mg x = none := fun hi => hno _ (map_at (g := fun _ => some none) eN hi)
  have X2 : ∀ a o, (kBis B.w.params).lookup a = some o → B.obj a = some o := fun a o e => X a o (kBis_in eO e)
  have C : CodeOk (tabCode K 54) := ⟨fun n hn => map_id t0 n (brk_all hn), u1, u2, u3⟩
  have bl : Blt B := ⟨nn (i := 0) rfl, b1, nn (i := 1) rfl, b2, nn (i := 2) rfl, b3, nn (i := 3) rfl, b4⟩
  have M : Mail B 39 46 := ⟨dr_def X eD (i := 2) rfl, dr_def X eD (i := 3) rfl, nn (i := 4) rfl, b5, nn (i := 0) rfl, b1, nm (i := 2) rfl, nm (i := 3) rfl⟩
  have RD : Read B 39 46 63 (tabCode K 54) := ⟨M, dr_def X eD (i := 5) rfl, ⟨_, hin _ _ vE⟩, nm (i := 5) rfl, 54, tabVal K 54, hin _ _ vT, tab_of X (by decide) (dictAt_of eT) (keysLit_of (hashes_of eH eK kT) kT), tabCode_ok nT⟩
  exact ⟨⟨bl, C, ⟨39, 46, 63, RD, 53, dr_def X eD (i := 4) rfl, nm (i := 4) rfl, 78, dr_def X eD (i := 8) rfl, nm (i := 8) rfl, 73, dr_def X eD (i := 7) rfl, nm (i := 7) rfl⟩,
    ⟨23, 83, ⟨nm (i := 0) rfl, nn (i := 0) rfl, b1, _, _, dr_def X eD (i := 0) rfl, binding_bis X2 (bis_args1 _)⟩, dr_def X eD (i := 9) rfl, nm (i := 9) rfl⟩,
    ⟨32, 88, ⟨nm (i := 1) rfl, nn (i := 0) rfl, b1, _, _, dr_def X eD (i := 1) rfl, binding_bis X2 (bis_args2 _)⟩, dr_def X eD (i := 10) rfl, nm (i := 10) rfl⟩,
    ⟨93, dr_def X eD (i := 11) rfl, nm (i := 11) rfl⟩, ⟨68, dr_def X eD (i := 6) rfl, nm (i := 6) rfl⟩⟩, dr_def X eD (i := 12) rfl⟩
theorem are_of : ∀ {ns : List Int} {vs : List Value}, IntsAre vs ns → Are (vI ns) vs
  | [], _, .nil => .nil
  | _ :: _, _, .cons i t h => .cons (.int i t) (are_of h)
theorem no99 : 99 ∉ as1 := by decide
/-- the law, at the heap that the top left with the script laid -/
theorem law1_wp {prog : Program} {w : World} {s₀ s : Shared} {mg mb : Str → Option Value} {vs : List Value} {ns : List Int} (keeps : ∀ b o, s₀.heap.get? b = some o → s.heap.get? b = some o) (hg : s.heap.Ns mainGlobals mg) (hb : s.heap.Ns builtinsNs mb) (hn : s.heap.NoLimit) (E : obs1 s₀ = val1 w)
    (b1 : mb "len" = some (.builtin "len")) (b2 : mb "sum" = some (.builtin "sum")) (b3 : mb "max" = some (.builtin "max")) (b4 : mb "range" = some (.type "range")) (b5 : mb "enumerate" = some (.type "enumerate"))
    (hs : s.heap.get? 99 = some { cls := .type "list", data := .seq vs.toArray }) (hi : IntsAre vs ns) (hz : ns.length ≤ 2 ^ 20) (hgen : AllBare s.gens) (hfin : allOut fin 10 0 [] (List.replicate 10 0) = true) :
    mg "law" = some (.ref 98) ∧ wpAny (model prog w) callerA (call (.ref 98) [.ref 99]) (fun v s' => v = .bool true ∧ (∀ b o, s.heap.get? b = some o → s'.heap.get? b = some o) ∧ s'.os = s.os ∧ AllBare s'.gens) (fun _ _ => False) s := by
  let B := baseOf prog w s.heap 99 mg mb hg hb hn (by decide) (by decide) (by decide)
  have X : (fragAt as1 s₀).In s.heap := fun a o e => keeps _ _ (fragAt_in a o e)
  have hX : ∀ a o, (fragAt as1 s₀).lookup a = some o → B.obj a = some o := fun a o e => by
    show (if a = 99 then none else s.heap.get? a) = some o
    rw [if_neg (by rintro rfl; exact no99 (lookup_map e).1)]
    exact X a o e
  obtain ⟨L, D⟩ := law1_of (B := B) hX (fun n v e => mg_of X hg e) (fun n e => mg_no X hg e) E b1 b2 b3 b4 b5
  refine ⟨mg_of X hg (Prod.mk.inj (map_at (Prod.mk.inj (Prod.mk.inj E).2).1 (i := 12) rfl)).1, ?_⟩
  let ob : Obj := { cls := .type "list", data := .seq vs.toArray }
  let H : Hp := put (fun _ => none) 99 (.raw ob)
  have hH : H 99 = some (.raw ob) := put_self _ _ _
  let P : Pr := { obj := B.obj, gen := fun _ => none, os := s.os }
  have o : Ok P H s := by
    refine ⟨fun a x e => ?_, fun a x e => ?_, fun a x e => ?_, fun _ _ e => (nomatch e), hgen, rfl⟩
    · have e' : (if a = 99 then none else s.heap.get? a) = some x := e
      split at e'
      · cases e'
      · exact e'
    · by_cases q : a = 99
      · subst q
        rw [hH] at e; cases e
        exact ⟨ob, hs, .raw rfl⟩
      · have : H a = none := put_ne _ _ q
        rw [this] at e; cases e
    · have e' : (if a = 99 then none else s.heap.get? a) = some x := e
      by_cases q : a = 99
      · rw [if_pos q] at e'; cases e'
      · exact put_ne _ _ q
  have ia := are_of hi
  have hl : ∀ H', Ext H H' → Lst H' 99 (vI ns) := fun H' x => .raw (vs := vs) (n := 0) (x _ _ hH) ia
  have r : Room 6 callerA := ⟨rfl, rfl, by decide +kernel, by decide +kernel⟩
  have key := law1_ok (k := 0) (Φ := fun v H' => v = .bool true ∧ Ext H H') D L hfin (hl H (Ext.refl _)) hl (Nat.le_trans hz (by decide +kernel)) (fun H' x => ⟨rfl, x⟩) callerA P s [.ref 99] r (fun _ _ e => e) o (.cons (.ref 99) .nil)
  refine noE key ?_
  rintro val s' ⟨v, H', iv, o', rfl, x⟩
  cases iv
  refine ⟨rfl, fun b y e => ?_, o'.os, o'.bare⟩
  by_cases q : b = 99
  · subst q
    rw [hs] at e; cases e
    exact o'.raw (x _ _ hH)
  · refine o'.prot b y ?_
    show (if b = 99 then none else s.heap.get? b) = some y
    rw [if_neg q]; exact e
/-! the head -/
def lw : OpenRow := PySem.Challenge.rw_sl0019_01.row
def q1 : Program := view PySem.Challenge.pw_sl0019_01 ([4, 5, 6] ++ (List.range 51).map (· + 8) ++ [60, 61, 62, 63, 64, 65, 66])
def loose1 : List Str := ["bisect_right", "bisect_left", "EXACT_TOKEN_TYPES"]
def xt1 (s : Shared) : Bool := xlAt q1 [] s && recOk [] s
def recOf : Stmt → DefRec | .FunctionDef n ps b _ _ _ s _ _ pos => ⟨n, ps, b, s, pos⟩ | _ => ⟨"", sArgs (.Pass ⟨0, 0, 0, 0⟩), [], sScope (.Pass ⟨0, 0, 0, 0⟩), ⟨0, 0, 0, 0⟩⟩
def dLaw : DefRec := recOf (at1 66)
theorem said1 : PySem.Challenge.rw_sl0019_01.wellSaid = true := by kernel_rfl
abbrev Left1 (w : World) : Prop := (openEnds treeTable PySem.Challenge.pw_sl0019_01 w 3818).map (fun s => (openSeen q1 loose1 (importedModules PySem.Challenge.pw_sl0019_01.main.body) xt1 true s, obs1 s)) = some (openGood q1 loose1, val1 w)
theorem left1f : ∀ w : World, Left1 (w.withFollow "special-get-raises" false) := by
  unfold Left1 openEnds fencedOpening topFrom
  rw [PySem.W.Fast.te14364793385576792824, PySem.W.Fast.te4187177175401517315, PySem.W.Fast.te5923862056798008813, PySem.W.Fast.te10274390034422433532, PySem.W.Fast.te14289696077712309145, PySem.W.Fast.te14082659384304107361, PySem.W.Fast.te1435165496053646825]
  intro w
  kernel_rfl
theorem left1t : ∀ w : World, Left1 (w.withFollow "special-get-raises" true) := by
  unfold Left1 openEnds fencedOpening topFrom
  rw [PySem.W.Fast.te14364793385576792824, PySem.W.Fast.te4187177175401517315, PySem.W.Fast.te5923862056798008813, PySem.W.Fast.te10274390034422433532, PySem.W.Fast.te14289696077712309145, PySem.W.Fast.te14082659384304107361, PySem.W.Fast.te1435165496053646825]
  intro w
  kernel_rfl
end
end Mine
end
open PySem PySem.W PySem.W.X PySem.W.ZRun PyProof.Rows
set_option maxRecDepth 100000 in
set_option maxHeartbeats 0 in
theorem PySem.Challenge.cw_sl0019_01_holds : PySem.Challenge.rw_sl0019_01.Holds := by
  w_on
  refine holds_law Mine.said1 fun said => ?_
  refine holds_openX (q := Mine.q1) (loose := Mine.loose1) (Xt := Mine.xt1) (XP := XL Mine.q1 []) (Yf := Mine.obs1) (Ya := Mine.val1) (N := 3818) (d := Mine.dLaw) (kwd := [])
    (byRow2 "special-get-raises" (P := Mine.Left1) Mine.left1f Mine.left1t) (fun s e => xl_of s (Bool.and_eq_true_iff.mp e).1) XL.keeps (by kernel_rfl) (by kernel_rfl) (by kernel_rfl) (fun s e => recFacts_of (Bool.and_eq_true_iff.mp e).2) (by rfl) said (by kernel_rfl) ⟨rfl, rfl, rfl, rfl, rfl, by decide +kernel⟩ ?hw ?hc
  case hw => w_witness2
  intro w s₀ s₁ mg mb G y fa o pm cd doc dV kV ho hd hcd hD hmg hg args vals as L hpre hlay hrd hwl hlo
  have ZN : s₀.heap.objs.size = 99 := (Prod.mk.inj y).1
  clear hd hD hcd ho
  refine Ground.open G ?_
  intro T B D TE TW
  wrow_args hpre hlay hrd hwl hlo
  obtain ⟨hat, hsz⟩ := script_at L
  rw [ZN] at hat hsz
  subst hat
  all_lens
  have key := Mine.law1_wp (prog := PySem.Challenge.rw_sl0019_01.row.prog) (w := w) L.keeps T.g T.b T.nolimit y ((T.builtins _ (by decide +kernel)).trans (by kernel_rfl)) ((T.builtins _ (by decide +kernel)).trans (by kernel_rfl)) ((T.builtins _ (by decide +kernel)).trans (by kernel_rfl)) ((T.builtins _ (by decide +kernel)).trans (by kernel_rfl)) ((T.builtins _ (by decide +kernel)).trans (by kernel_rfl))
    (script_obj L (by assumption)) (by assumption) (And.right (by assumption)) (.of_eq hg) Mine.all_fin
  have e : Value.ref fa = .ref 98 := Option.some.inj (hmg.symm.trans key.1)
  injection e with e
  subst e
  refine wpAny_mono key.2 ?_ (fun _ _ f => f.elim)
  rintro v s' ⟨rfl, hk, ho', hbare⟩
  exact ⟨.inl ⟨_, _, [], rfl, fun _ => rfl, ReadsW.bool true, by first | rfl | wrow_post, fun _ => ⟨List.nodup_nil, fun _ hm => nomatch hm⟩⟩, OldK.of_keep hk, ho', hbare⟩
