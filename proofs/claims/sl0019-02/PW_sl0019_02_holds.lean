import PyProof.Rows.All
import Wide.All
import OpenK.AllK
import Wide.FinOn
import PySem.Challenge.RW_sl0019_02
set_option Elab.async false
set_option maxRecDepth 100000
noncomputable section
open PySem PySem.W PyProof.Rows
namespace Mine

/-- values without their tokens -/
inductive V where
  | none
  | bool (b : Bool)
  | int (i : Int)
  | str (x : Str)
  | ref (a : Addr)
  | val (v : Value)

inductive Is : V → Value → Prop where
  | none : Is .none .none
  | bool (b : Bool) : Is (.bool b) (.bool b)
  | int (i : Int) (t : Tok) : Is (.int i) (.int i t)
  | str (x : Str) (t : Tok) : Is (.str x) (.str x t)
  | ref (a : Addr) : Is (.ref a) (.ref a)
  | val (v : Value) : Is (.val v) v

inductive Are : List V → List Value → Prop where
  | nil : Are [] []
  | cons {x : V} {v : Value} {xs : List V} {vs : List Value} : Is x v → Are xs vs → Are (x :: xs) (v :: vs)

theorem Are.length {xs : List V} {vs : List Value} (h : Are xs vs) : xs.length = vs.length := by
  induction h with
  | nil => rfl
  | cons _ _ ih => simp [ih]
theorem Are.append {xs ys : List V} {vs us : List Value} (h : Are xs vs) (g : Are ys us) : Are (xs ++ ys) (vs ++ us) := by
  induction h with
  | nil => exact g
  | cons a _ ih => exact .cons a ih
theorem Are.get {xs : List V} {vs : List Value} (h : Are xs vs) : ∀ {i : Nat} {x : V}, xs[i]? = some x → ∃ v, vs[i]? = some v ∧ Is x v := by
  induction h with
  | nil => intro i x e; cases e
  | @cons x v xs vs a _ ih =>
    intro i y e
    cases i with
    | zero => cases e; exact ⟨v, rfl, a⟩
    | succ i => exact ih (i := i) (by simpa using e)
theorem Are.set {xs : List V} {vs : List Value} (h : Are xs vs) {x : V} {v : Value} (e : Is x v) : ∀ i : Nat, Are (xs.set i x) (vs.set i v) := by
  induction h with
  | nil => intro i; exact .nil
  | cons a b ih =>
    intro i
    cases i with
    | zero => exact .cons e b
    | succ i => exact .cons a (ih i)
theorem Are.take {xs : List V} {vs : List Value} (h : Are xs vs) : ∀ i : Nat, Are (xs.take i) (vs.take i) := by
  induction h with
  | nil => intro i; simp; exact .nil
  | cons a b ih =>
    intro i
    cases i with
    | zero => exact .nil
    | succ i => exact .cons a (ih i)
theorem Are.drop {xs : List V} {vs : List Value} (h : Are xs vs) : ∀ i : Nat, Are (xs.drop i) (vs.drop i) := by
  induction h with
  | nil => intro i; simp; exact .nil
  | cons a b ih =>
    intro i
    cases i with
    | zero => exact .cons a b
    | succ i => exact ih i
theorem Are.reverse {xs : List V} {vs : List Value} (h : Are xs vs) : Are xs.reverse vs.reverse := by
  induction h with
  | nil => exact .nil
  | cons a b ih => rw [List.reverse_cons, List.reverse_cons]; exact ih.append (.cons a .nil)

inductive O where
  | list (xs : List V)
  | tup (xs : List V)
  | cell (v : Option V)
  | rng (a b c : Int)
  | raw (ob : Obj)

inductive ObIs : O → Obj → Prop where
  | list {xs : List V} {vs : List Value} (n : Nat) : Are xs vs → ObIs (.list xs) { cls := .type "list", data := .seq vs.toArray n }
  | tup {xs : List V} {vs : List Value} (n : Nat) : Are xs vs → ObIs (.tup xs) { cls := .type "tuple", data := .seq vs.toArray n }
  | cell0 : ObIs (.cell none) { cls := .type "cell", data := .cell none }
  | cell {x : V} {v : Value} : Is x v → ObIs (.cell (some x)) { cls := .type "cell", data := .cell (some v) }
  | rng {a b c : Int} (t u v : Tok) : ObIs (.rng a b c) { cls := .type "range", data := .fields #[.int a t, .int b u, .int c v] }
  | raw {ob : Obj} : ob.isFreed = false → ObIs (.raw ob) ob
theorem ObIs.alive {o : O} {ob : Obj} (h : ObIs o ob) : ob.isFreed = false := by
  cases h with
  | raw h => exact h
  | _ => rfl

abbrev Hp := Addr → Option O
def put (H : Hp) (a : Addr) (o : O) : Hp := fun b => if b = a then some o else H b
theorem put_self (H : Hp) (a : Addr) (o : O) : put H a o a = some o := if_pos rfl
theorem put_ne (H : Hp) {a b : Addr} (o : O) (h : b ≠ a) : put H a o b = H b := if_neg h
theorem put_put (H : Hp) (a : Addr) (o o' : O) : put (put H a o) a o' = put H a o' := by
  funext b; unfold put; split <;> rfl

/-- the heap has grown -/
def Ext (H H' : Hp) : Prop := ∀ a o, H a = some o → H' a = some o
theorem Ext.refl (H : Hp) : Ext H H := fun _ _ h => h
theorem Ext.trans {H H' H'' : Hp} (h : Ext H H') (g : Ext H' H'') : Ext H H'' := fun a o e => g a o (h a o e)
theorem Ext.put {H H' : Hp} (h : Ext H H') {a : Addr} (o : O) (n : H a = none) : Ext H (put H' a o) := fun b x e => by
  have : b ≠ a := by rintro rfl; rw [n] at e; cases e
  rw [put_ne _ _ this]; exact h b x e

/-- what must stay as it is: objects, generators, the outside -/
structure Pr where
  obj : Addr → Option Obj
  gen : Nat → Option GenState
  os : OsState
def Pr.put (P : Pr) (a : Addr) (o : Obj) : Pr := { P with obj := fun b => if b = a then some o else P.obj b }
theorem Pr.put_ne (P : Pr) {a b : Addr} (o : Obj) (h : b ≠ a) : (P.put a o).obj b = P.obj b := if_neg h
theorem Pr.put_self (P : Pr) (a : Addr) (o : Obj) : (P.put a o).obj a = some o := if_pos rfl

structure Ok (P : Pr) (H : Hp) (s : Shared) : Prop where
  prot : ∀ a o, P.obj a = some o → s.heap.get? a = some o
  objs : ∀ a o, H a = some o → ∃ ob, s.heap.get? a = some ob ∧ ObIs o ob
  dis : ∀ a o, P.obj a = some o → H a = none
  gens : ∀ i g, P.gen i = some g → s.gens[i]? = some g
  bare : AllBare s.gens
  os : s.os = P.os

section
variable {P : Pr} {H : Hp} {s : Shared}
theorem Ok.ltP (K : Ok P H s) {a : Addr} {o : Obj} (h : P.obj a = some o) : a < s.heap.objs.size := Heap.lt_size (K.prot a o h)
theorem Ok.ltH (K : Ok P H s) {a : Addr} {o : O} (h : H a = some o) : a < s.heap.objs.size := by
  obtain ⟨ob, e, _⟩ := K.objs a o h
  exact Heap.lt_size e
theorem Ok.newP (K : Ok P H s) : P.obj s.heap.objs.size = none := by
  cases h : P.obj s.heap.objs.size with
  | none => rfl
  | some o => exact absurd (K.ltP h) (Nat.lt_irrefl _)
theorem Ok.newH (K : Ok P H s) : H s.heap.objs.size = none := by
  cases h : H s.heap.objs.size with
  | none => rfl
  | some o => exact absurd (K.ltH h) (Nat.lt_irrefl _)
theorem Ok.toks (K : Ok P H s) (t : Nat) : Ok P H { s with toks := t } := ⟨K.prot, K.objs, K.dis, K.gens, K.bare, K.os⟩
/-- a new object that the abstract heap does not tell -/
theorem Ok.push (K : Ok P H s) (ob : Obj) (t : Nat) : Ok P H { s with heap := s.heap.push ob, toks := t } :=
  ⟨fun a o h => Heap.get?_push_of_some _ (K.prot a o h), fun a o h => let ⟨x, e, i⟩ := K.objs a o h; ⟨x, Heap.get?_push_of_some _ e, i⟩, K.dis, K.gens, K.bare, K.os⟩
theorem Ok.pushH (K : Ok P H s) {o : O} {ob : Obj} (i : ObIs o ob) (t : Nat) : Ok P (put H s.heap.objs.size o) { s with heap := s.heap.push ob, toks := t } := by
  refine ⟨(K.push ob t).prot, fun a o' h => ?_, fun a o' h => ?_, K.gens, K.bare, K.os⟩
  · by_cases e : a = s.heap.objs.size
    · subst e
      rw [put_self] at h; cases h
      exact ⟨ob, Heap.get?_push_size _ i.alive, i⟩
    · rw [put_ne _ _ e] at h
      exact (K.push ob t).objs a o' h
  · rw [put_ne _ _ (Nat.ne_of_lt (K.ltP h))]; exact K.dis a o' h
theorem Ok.pushP (K : Ok P H s) {ob : Obj} (hf : ob.isFreed = false) (t : Nat) : Ok (P.put s.heap.objs.size ob) H { s with heap := s.heap.push ob, toks := t } := by
  refine ⟨fun a o h => ?_, (K.push ob t).objs, fun a o h => ?_, K.gens, K.bare, K.os⟩
  · by_cases e : a = s.heap.objs.size
    · subst e; rw [Pr.put_self] at h; cases h; exact Heap.get?_push_size _ hf
    · rw [Pr.put_ne _ _ e] at h; exact (K.push ob t).prot a o h
  · by_cases e : a = s.heap.objs.size
    · subst e; exact K.newH
    · rw [Pr.put_ne _ _ e] at h; exact K.dis a o h
theorem Ok.updH (K : Ok P H s) {a : Addr} {o o' : O} {ob' : Obj} {h' : Heap} (ha : H a = some o) (hs : Heap.SameBut a s.heap h') (e : h'.get? a = some ob') (i : ObIs o' ob') (t : Nat) : Ok P (put H a o') { s with heap := h', toks := t } := by
  refine ⟨fun b x h => ?_, fun b x h => ?_, fun b x h => ?_, K.gens, K.bare, K.os⟩
  · have hb : b ≠ a := by rintro rfl; have := K.dis _ _ h; rw [ha] at this; cases this
    exact (hs.2 b hb).trans (K.prot b x h)
  · by_cases hb : b = a
    · subst hb; rw [put_self] at h; cases h; exact ⟨ob', e, i⟩
    · rw [put_ne _ _ hb] at h
      obtain ⟨y, e', i'⟩ := K.objs b x h
      exact ⟨y, (hs.2 b hb).trans e', i'⟩
  · have hb : b ≠ a := by rintro rfl; have := K.dis _ _ h; rw [ha] at this; cases this
    rw [put_ne _ _ hb]; exact K.dis b x h
/-- a hidden object turned -/
theorem Ok.updP (K : Ok P H s) {a : Addr} {o o' : Obj} {h' : Heap} (ha : P.obj a = some o) (hs : Heap.SameBut a s.heap h') (e : h'.get? a = some o') (t : Nat) : Ok (P.put a o') H { s with heap := h', toks := t } := by
  refine ⟨fun b x h => ?_, fun b x h => ?_, fun b x h => ?_, K.gens, K.bare, K.os⟩
  · by_cases hb : b = a
    · subst hb; rw [Pr.put_self] at h; cases h; exact e
    · rw [Pr.put_ne _ _ hb] at h; exact (hs.2 b hb).trans (K.prot b x h)
  · have hb : b ≠ a := by rintro rfl; have := K.dis _ _ ha; rw [h] at this; cases this
    obtain ⟨y, e', i'⟩ := K.objs b x h
    exact ⟨y, (hs.2 b hb).trans e', i'⟩
  · by_cases hb : b = a
    · subst hb; exact K.dis _ _ ha
    · rw [Pr.put_ne _ _ hb] at h; exact K.dis b x h
/-- an object turned that neither tells (a frame's) -/
theorem Ok.updN (K : Ok P H s) {a : Addr} {h' : Heap} (hP : P.obj a = none) (hH : H a = none) (hs : Heap.SameBut a s.heap h') (t : Nat) : Ok P H { s with heap := h', toks := t } := by
  refine ⟨fun b x h => ?_, fun b x h => ?_, K.dis, K.gens, K.bare, K.os⟩
  · have hb : b ≠ a := by rintro rfl; rw [hP] at h; cases h
    exact (hs.2 b hb).trans (K.prot b x h)
  · have hb : b ≠ a := by rintro rfl; rw [hH] at h; cases h
    obtain ⟨y, e', i'⟩ := K.objs b x h
    exact ⟨y, (hs.2 b hb).trans e', i'⟩
theorem Ok.weak (K : Ok P H s) {P' : Pr} {H' : Hp} (hP : ∀ a o, P'.obj a = some o → P.obj a = some o) (hH : ∀ a o, H' a = some o → H a = some o) (hg : ∀ i g, P'.gen i = some g → P.gen i = some g) (ho : P'.os = P.os) : Ok P' H' s := by
  refine ⟨fun a o h => K.prot a o (hP a o h), fun a o h => K.objs a o (hH a o h), fun a o h => ?_, fun i g h => K.gens i g (hg i g h), K.bare, K.os.trans ho.symm⟩
  cases q : H' a with
  | none => rfl
  | some x => have := hH a x q; rw [K.dis a o (hP a o h)] at this; cases this
theorem Ok.list (K : Ok P H s) {a : Addr} {xs : List V} (h : H a = some (.list xs)) : ∃ vs n, Are xs vs ∧ s.heap.get? a = some { cls := .type "list", data := .seq vs.toArray n } := by
  obtain ⟨ob, e, i⟩ := K.objs a _ h
  cases i with
  | list n i => exact ⟨_, n, i, e⟩
theorem Ok.tup (K : Ok P H s) {a : Addr} {xs : List V} (h : H a = some (.tup xs)) : ∃ vs n, Are xs vs ∧ s.heap.get? a = some { cls := .type "tuple", data := .seq vs.toArray n } := by
  obtain ⟨ob, e, i⟩ := K.objs a _ h
  cases i with
  | tup n i => exact ⟨_, n, i, e⟩
theorem Ok.cell (K : Ok P H s) {a : Addr} {x : V} (h : H a = some (.cell (some x))) : ∃ v, Is x v ∧ s.heap.get? a = some { cls := .type "cell", data := .cell (some v) } := by
  obtain ⟨ob, e, i⟩ := K.objs a _ h
  cases i with
  | cell i => exact ⟨_, i, e⟩
theorem Ok.anyCell (K : Ok P H s) {a : Addr} {x : Option V} (h : H a = some (.cell x)) : ∃ v, s.heap.get? a = some { cls := .type "cell", data := .cell v } := by
  obtain ⟨ob, e, i⟩ := K.objs a _ h
  cases i with
  | cell0 => exact ⟨_, e⟩
  | cell i => exact ⟨_, e⟩
theorem Ok.rng (K : Ok P H s) {a : Addr} {x y z : Int} (h : H a = some (.rng x y z)) : ∃ t u v, IsRange s.heap a x y z t u v := by
  obtain ⟨ob, e, i⟩ := K.objs a _ h
  cases i with
  | rng t u v => exact ⟨t, u, v, e⟩
theorem Ok.raw (K : Ok P H s) {a : Addr} {ob : Obj} (h : H a = some (.raw ob)) : s.heap.get? a = some ob := by
  obtain ⟨ob, e, i⟩ := K.objs a _ h
  cases i with
  | raw i => exact e
theorem Ok.isList (K : Ok P H s) {a : Addr} {xs : List V} (h : H a = some (.list xs)) : ∃ vs, Are xs vs ∧ s.heap.IsList a vs.toArray := by
  obtain ⟨vs, n, i, e⟩ := K.list h
  exact ⟨vs, i, _, e, rfl, n, rfl⟩
end

/-- a frame's static part: its block's table, the names that have a place in its own dict, its cells -/
structure FI where
  sc : Scope
  names : List Str
  cells : List (Str × Addr)
  code : Option (Addr × Str) := none

/-- what a look at a frame's static part finds -/
def locOk (sc : Scope) (names : List Str) : Bool := names.all fun x => sc.names.lookup x == some .local
def celOk (sc : Scope) (cs : List Str) : Bool := cs.all fun x => sc.names.lookup x == some .cell || sc.names.lookup x == some .free

structure Fm (F : FI) (env : Env) (vars : List (Option V)) (P : Pr) (H : Hp) (s : Shared) : Prop where
  sc : env.scope = F.sc
  kind : F.sc.kind = .function
  glob : env.globals = mainGlobals
  blt : env.builtins = builtinsNs
  nd : F.names.Nodup
  loc : locOk F.sc F.names = true
  cel : celOk F.sc (F.cells.map (·.1)) = true
  locP : P.obj env.locals = none
  locH : H env.locals = none
  ns : ∃ m, s.heap.Ns env.locals m ∧ ∀ (i : Nat) (x : Str) (v : V), F.names[i]? = some x → vars[i]? = some (some v) → ∃ val, m x = some val ∧ Is v val
  cells : ∀ x c, (x, c) ∈ F.cells → env.cells.lookup x = some c
  coro : env.scope.isCoroutine = false
  cod : ∀ c q, F.code = some (c, q) → env.code = .ref c ∧ env.qual = q

section
variable {F : FI} {env : Env} {vars : List (Option V)} {P : Pr} {H : Hp} {s : Shared}
theorem Fm.mono (K : Fm F env vars P H s) {P' : Pr} {H' : Hp} {s' : Shared} (hk : ∀ o, s.heap.get? env.locals = some o → s'.heap.get? env.locals = some o) (hH : env.locals < s.heap.objs.size → H' env.locals = none) (hP : env.locals < s.heap.objs.size → P'.obj env.locals = none) : Fm F env vars P' H' s' := by
  obtain ⟨m, ⟨o, es, ep, ho, r⟩, hv⟩ := K.ns
  exact ⟨K.sc, K.kind, K.glob, K.blt, K.nd, K.loc, K.cel, hP (Heap.lt_size ho), hH (Heap.lt_size ho), ⟨m, ⟨o, es, ep, hk _ ho, r⟩, hv⟩, K.cells, K.coro, K.cod⟩
theorem Fm.lt (K : Fm F env vars P H s) : env.locals < s.heap.objs.size := let ⟨_, hn, _⟩ := K.ns; hn.lt
theorem Fm.keep (K : Fm F env vars P H s) {s' : Shared} (hk : ∀ b o, s.heap.get? b = some o → s'.heap.get? b = some o) : Fm F env vars P H s' := K.mono (fun o e => hk _ o e) (fun _ => K.locH) fun _ => K.locP
theorem Fm.toks (K : Fm F env vars P H s) (t : Nat) : Fm F env vars P H { s with toks := t } := K.mono (fun _ e => e) (fun _ => K.locH) fun _ => K.locP
theorem Fm.push (K : Fm F env vars P H s) (ob : Obj) (t : Nat) : Fm F env vars P H { s with heap := s.heap.push ob, toks := t } := K.mono (fun _ e => Heap.get?_push_of_some _ e) (fun _ => K.locH) fun _ => K.locP
theorem Fm.pushH (K : Fm F env vars P H s) (ob : Obj) (o : O) (t : Nat) : Fm F env vars P (put H s.heap.objs.size o) { s with heap := s.heap.push ob, toks := t } :=
  K.mono (fun _ e => Heap.get?_push_of_some _ e) (fun h => by rw [put_ne _ _ (Nat.ne_of_lt h)]; exact K.locH) fun _ => K.locP
theorem Fm.pushP (K : Fm F env vars P H s) (ob o : Obj) (t : Nat) : Fm F env vars (P.put s.heap.objs.size o) H { s with heap := s.heap.push ob, toks := t } :=
  K.mono (fun _ e => Heap.get?_push_of_some _ e) (fun _ => K.locH) fun h => by rw [Pr.put_ne _ _ (Nat.ne_of_lt h)]; exact K.locP
theorem Fm.updH (K : Fm F env vars P H s) {a : Addr} {o o' : O} {h' : Heap} (ha : H a = some o) (hs : Heap.SameBut a s.heap h') (t : Nat) : Fm F env vars P (put H a o') { s with heap := h', toks := t } := by
  have ne : env.locals ≠ a := by rintro rfl; rw [K.locH] at ha; cases ha
  exact K.mono (fun _ e => (hs.2 _ ne).trans e) (fun _ => by rw [put_ne _ _ ne]; exact K.locH) fun _ => K.locP

/-- the frame kept while something else runs -/
theorem Fm.guard (K : Fm F env vars P H s) (O : Ok P H s) : ∃ P' : Pr, (∀ a o, P.obj a = some o → P'.obj a = some o) ∧ P'.gen = P.gen ∧ P'.os = P.os ∧ Ok P' H s ∧ ∀ H' s', Ok P' H' s' → Fm F env vars P H' s' ∧ Ok P H' s' := by
  classical
  refine ⟨{ P with obj := fun b => if H b = none then s.heap.get? b else none }, fun a o h => ?_, rfl, rfl, ⟨fun a o h => ?_, O.objs, fun a o h => ?_, O.gens, O.bare, O.os⟩, fun H' s' O' => ?_⟩
  · show (if H a = none then s.heap.get? a else none) = some o
    rw [if_pos (O.dis a o h)]; exact O.prot a o h
  · have h' : (if H a = none then s.heap.get? a else none) = some o := h
    split at h'
    · exact h'
    · cases h'
  · have h' : (if H a = none then s.heap.get? a else none) = some o := h
    split at h'
    · assumption
    · cases h'
  · have key : ∀ b o, H b = none → s.heap.get? b = some o → s'.heap.get? b = some o ∧ H' b = none := fun b o h e => by
      have q : (if H b = none then s.heap.get? b else none) = some o := by rw [if_pos h]; exact e
      exact ⟨O'.prot b o q, O'.dis b o q⟩
    obtain ⟨m, ⟨o, _, _, ho, _⟩, _⟩ := K.ns
    refine ⟨K.mono (fun o e => (key _ o K.locH e).1) (fun _ => (key _ o K.locH ho).2) fun _ => K.locP, O'.weak (fun a o h => ?_) (fun _ _ h => h) (fun _ _ h => h) rfl⟩
    show (if H a = none then s.heap.get? a else none) = some o
    rw [if_pos (O.dis a o h)]; exact O.prot a o h
end

/-- room for k calls within each other -/
def Room (k : Nat) (A : Around) : Prop := A.handled = none ∧ A.guards = some [] ∧ A.depth + k < recursionLimit ∧ A.units + 16 * k + 80 < cLine
theorem Room.mono {k j : Nat} {A : Around} (h : Room k A) (hj : j ≤ k) : Room j A := by unfold Room at *; refine ⟨h.1, h.2.1, ?_, ?_⟩ <;> omega
theorem Room.in1 {k : Nat} {A : Around} (h : Room (k + 1) A) : Room k A.in1 := by unfold Room at *; refine ⟨h.1, h.2.1, ?_, ?_⟩; exact (by show A.depth + k < _; omega); (show A.units + 1 + 16 * k + 80 < _); omega
theorem Room.deeper {k : Nat} {A : Around} (h : Room (k + 1) A) (env : Env) : Room k (A.deeper env) := by
  unfold Room at *; refine ⟨h.1, h.2.1, ?_, ?_⟩ <;> simp only [Around.deeper] <;> omega
theorem Room.depth {k : Nat} {A : Around} (h : Room k A) : A.depth < recursionLimit := by have := h.2.2.1; omega
theorem Room.units64 {k : Nat} {A : Around} (h : Room k A) : A.units + 64 < cLine := by have := h.2.2.2; omega
theorem Room.units {k : Nat} {A : Around} (h : Room k A) : A.units < cLine := by have := h.2.2.2; omega

/-- the program, the world, what its top left -/
structure Base where
  prog : Program
  w : World
  obj : Addr → Option Obj
  mg : Str → Option Value
  mb : Str → Option Value
  limit : ∀ h : Heap, (∀ a o, obj a = some o → h.get? a = some o) → h.NoLimit
  glob : ∀ h : Heap, (∀ a o, obj a = some o → h.get? a = some o) → h.Ns mainGlobals mg
  blt : ∀ h : Heap, (∀ a o, obj a = some o → h.get? a = some o) → h.Ns builtinsNs mb
def Base.In (B : Base) (P : Pr) : Prop := ∀ a o, B.obj a = some o → P.obj a = some o
abbrev Base.M (B : Base) : Model := model B.prog B.w
theorem Base.In.heap {B : Base} {P : Pr} (h : B.In P) {H : Hp} {s : Shared} (K : Ok P H s) : ∀ a o, B.obj a = some o → s.heap.get? a = some o := fun a o e => K.prot a o (h a o e)
theorem Base.In.put {B : Base} {P : Pr} (h : B.In P) {H : Hp} {s : Shared} (K : Ok P H s) (ob : Obj) : B.In (P.put s.heap.objs.size ob) := fun a o e => by
  rw [Pr.put_ne _ _ (Nat.ne_of_lt (K.ltP (h a o e)))]; exact h a o e

/-- an expression's value -/
def WE (B : Base) (k : Nat) (F : FI) (e : PySem.Expr) (vars : List (Option V)) (H : Hp) (Φ : V → Hp → Prop) : Prop :=
  ∀ A env P s, Room k A → B.In P → Fm F env vars P H s → Ok P H s →
    wpAny B.M A (eval e env) (fun val s' => ∃ v H', Is v val ∧ Fm F env vars P H' s' ∧ Ok P H' s' ∧ Φ v H') (fun _ _ => False) s
/-- a test -/
def WT (B : Base) (k : Nat) (F : FI) (e : PySem.Expr) (vars : List (Option V)) (H : Hp) (Φ : Bool → Hp → Prop) : Prop :=
  ∀ A env P s, Room k A → B.In P → Fm F env vars P H s → Ok P H s →
    wpAny B.M A (isTrue e env (eval e env)) (fun b s' => ∃ H', Fm F env vars P H' s' ∧ Ok P H' s' ∧ Φ b H') (fun _ _ => False) s
/-- a row of expressions -/
def WEs (B : Base) (k : Nat) (F : FI) (es : List PySem.Expr) (vars : List (Option V)) (H : Hp) (Φ : List V → Hp → Prop) : Prop :=
  ∀ A env P s pos, Room k A → B.In P → Fm F env vars P H s → Ok P H s →
    wpAny B.M A (spliced (backTo pos (starEach es env))) (fun vals s' => ∃ vs H', Are vs vals ∧ Fm F env vars P H' s' ∧ Ok P H' s' ∧ Φ vs H') (fun _ _ => False) s
/-- how a statement ends -/
inductive Fl where
  | next | brk | cont
  | ret (v : V)
inductive FlIs : Fl → Flow → Prop where
  | next : FlIs .next .next
  | brk : FlIs .brk .brk
  | cont : FlIs .cont .cont
  | ret {v : V} {val : Value} : Is v val → FlIs (.ret v) (.ret val)
def WS (B : Base) (k : Nat) (F : FI) (st : Stmt) (vars : List (Option V)) (H : Hp) (Φ : Fl → List (Option V) → Hp → Prop) : Prop :=
  ∀ A env P s, Room k A → B.In P → Fm F env vars P H s → Ok P H s →
    wpAny B.M A (exec st env) (fun fl s' => ∃ f vars' H', FlIs f fl ∧ Fm F env vars' P H' s' ∧ Ok P H' s' ∧ Φ f vars' H') (fun _ _ => False) s
def WSs (B : Base) (k : Nat) (F : FI) (sts : List Stmt) (vars : List (Option V)) (H : Hp) (Φ : Fl → List (Option V) → Hp → Prop) : Prop :=
  ∀ A env P s, Room k A → B.In P → Fm F env vars P H s → Ok P H s →
    wpAny B.M A (execs sts env) (fun fl s' => ∃ f vars' H', FlIs f fl ∧ Fm F env vars' P H' s' ∧ Ok P H' s' ∧ Φ f vars' H') (fun _ _ => False) s
/-- a store into a target -/
def WA (B : Base) (k : Nat) (F : FI) (t : PySem.Expr) (v : V) (vars : List (Option V)) (H : Hp) (Φ : List (Option V) → Hp → Prop) : Prop :=
  ∀ A env P s val, Room k A → B.In P → Fm F env vars P H s → Ok P H s → Is v val →
    wpAny B.M A (assign t env val) (fun _ s' => ∃ vars' H', Fm F env vars' P H' s' ∧ Ok P H' s' ∧ Φ vars' H') (fun _ _ => False) s
/-- something done to values -/
def WO (B : Base) (k : Nat) (g : List Value → Sem Value) (args : List V) (H : Hp) (Φ : V → Hp → Prop) : Prop :=
  ∀ A P s vals, Room k A → B.In P → Ok P H s → Are args vals →
    wpAny B.M A (g vals) (fun val s' => ∃ v H', Is v val ∧ Ok P H' s' ∧ Φ v H') (fun _ _ => False) s
/-- a call of a thing with values -/
abbrev WC (B : Base) (k : Nat) (f : Value) (args : List V) (H : Hp) (Φ : V → Hp → Prop) : Prop := WO B k (fun vals => call f vals) args H Φ
/-- a binary operator, a comparison, an item -/
abbrev WBin (B : Base) (k : Nat) (op : Operator) (a b : V) (H : Hp) (Φ : V → Hp → Prop) : Prop := WO B k (fun vals => binaryOp op (vals.getD 0 .none) (vals.getD 1 .none)) [a, b] H Φ
abbrev WInp (B : Base) (k : Nat) (op : Operator) (a b : V) (H : Hp) (Φ : V → Hp → Prop) : Prop := WO B k (fun vals => inplaceOp op (vals.getD 0 .none) (vals.getD 1 .none)) [a, b] H Φ
abbrev WCmp (B : Base) (k : Nat) (op : CmpOp) (a b : V) (H : Hp) (Φ : V → Hp → Prop) : Prop := WO B k (fun vals => compareOp op (vals.getD 0 .none) (vals.getD 1 .none)) [a, b] H Φ
/-- the truth of a value -/
def WTr (B : Base) (k : Nat) (a : V) (H : Hp) (Φ : Bool → Hp → Prop) : Prop :=
  ∀ A P s val, Room k A → B.In P → Ok P H s → Is a val →
    wpAny B.M A (truthy val) (fun b s' => ∃ H', Ok P H' s' ∧ Φ b H') (fun _ _ => False) s

section
variable {B : Base} {k : Nat} {F : FI} {vars : List (Option V)} {H : Hp}
theorem noE {α : Type} {M : Model} {A : Around} {t : Sem α} {Q Q' : α → Shared → Prop} {E : Value → Shared → Prop} {s : Shared} (h : wpAny M A t Q (fun _ _ => False) s) (hQ : ∀ a s', Q a s' → Q' a s') : wpAny M A t Q' E s :=
  wpAny_mono h hQ fun _ _ f => f.elim
theorem WE.mono {e : PySem.Expr} {Φ Ψ : V → Hp → Prop} (h : WE B k F e vars H Φ) (g : ∀ v H', Φ v H' → Ψ v H') : WE B k F e vars H Ψ :=
  fun A env P s r i f o => noE (h A env P s r i f o) fun _ _ ⟨v, H', a, b, c, d⟩ => ⟨v, H', a, b, c, g _ _ d⟩
theorem WT.mono {e : PySem.Expr} {Φ Ψ : Bool → Hp → Prop} (h : WT B k F e vars H Φ) (g : ∀ v H', Φ v H' → Ψ v H') : WT B k F e vars H Ψ :=
  fun A env P s r i f o => noE (h A env P s r i f o) fun _ _ ⟨H', b, c, d⟩ => ⟨H', b, c, g _ _ d⟩
theorem WSs.mono {sts : List Stmt} {Φ Ψ : Fl → List (Option V) → Hp → Prop} (h : WSs B k F sts vars H Φ) (g : ∀ f v H', Φ f v H' → Ψ f v H') : WSs B k F sts vars H Ψ :=
  fun A env P s r i f o => noE (h A env P s r i f o) fun _ _ ⟨v, w, H', a, b, c, d⟩ => ⟨v, w, H', a, b, c, g _ _ _ d⟩
theorem WO.mono {g : List Value → Sem Value} {args : List V} {Φ Ψ : V → Hp → Prop} (h : WO B k g args H Φ) (q : ∀ v H', Φ v H' → Ψ v H') : WO B k g args H Ψ :=
  fun A P s vals r i o a => noE (h A P s vals r i o a) fun _ _ ⟨v, H', a, b, d⟩ => ⟨v, H', a, b, q _ _ d⟩
theorem WO.le {g : List Value → Sem Value} {args : List V} {Φ : V → Hp → Prop} {j : Nat} (h : WO B k g args H Φ) (hj : k ≤ j) : WO B j g args H Φ :=
  fun A P s vals r => h A P s vals (r.mono hj)
/-- what is done to values, done within a frame -/
theorem WO.fr {g : List Value → Sem Value} {args : List V} {Φ : V → Hp → Prop} (h : WO B k g args H Φ) {A : Around} {env : Env} {P : Pr} {s : Shared} {vals : List Value} (r : Room k A) (i : B.In P) (f : Fm F env vars P H s) (o : Ok P H s) (a : Are args vals) :
    wpAny B.M A (g vals) (fun val s' => ∃ v H', Is v val ∧ Fm F env vars P H' s' ∧ Ok P H' s' ∧ Φ v H') (fun _ _ => False) s := by
  obtain ⟨P', hP, _, _, o', back⟩ := f.guard o
  exact noE (h A P' s vals r (fun a o e => hP a o (i a o e)) o' a) fun _ _ ⟨v, H', a, b, d⟩ => ⟨v, H', a, (back _ _ b).1, (back _ _ b).2, d⟩
theorem WTr.fr {x : V} {Φ : Bool → Hp → Prop} (h : WTr B k x H Φ) {A : Around} {env : Env} {P : Pr} {s : Shared} {val : Value} (r : Room k A) (i : B.In P) (f : Fm F env vars P H s) (o : Ok P H s) (a : Is x val) :
    wpAny B.M A (truthy val) (fun b s' => ∃ H', Fm F env vars P H' s' ∧ Ok P H' s' ∧ Φ b H') (fun _ _ => False) s := by
  obtain ⟨P', hP, _, _, o', back⟩ := f.guard o
  exact noE (h A P' s val r (fun a o e => hP a o (i a o e)) o' a) fun _ _ ⟨H', b, d⟩ => ⟨H', (back _ _ b).1, (back _ _ b).2, d⟩
end
end Mine
end
noncomputable section
open PySem PySem.W PyProof.Rows
namespace Mine
section
variable {B : Base} {k : Nat} {F : FI} {vars : List (Option V)} {H : Hp}

/-! constants -/
theorem WE.int {i : Int} {n : Nat} {pos : Pos} {Φ : V → Hp → Prop} (h : Φ (.int i) H) : WE B k F (.Constant (.int i) n pos) vars H Φ :=
  fun _ _ _ s _ _ f o => wpAny_Constant_int ⟨_, _, .int i s.toks, f.toks _, o.toks _, h⟩
theorem WE.str {x : Str} {n : Nat} {pos : Pos} {Φ : V → Hp → Prop} (h : Φ (.str x) H) : WE B k F (.Constant (.str x) n pos) vars H Φ :=
  fun _ _ _ s _ _ f o => Calls.Constant_str ⟨_, _, .str x s.toks, f.toks _, o.toks _, h⟩
theorem WE.bool {b : Bool} {n : Nat} {pos : Pos} {Φ : V → Hp → Prop} (h : Φ (.bool b) H) : WE B k F (.Constant (.bool b) n pos) vars H Φ :=
  fun _ _ _ _ _ _ f o _ _ _ => ⟨_, _, .bool b, f, o, h⟩
theorem WE.cnone {n : Nat} {pos : Pos} {Φ : V → Hp → Prop} (h : Φ .none H) : WE B k F (.Constant .none n pos) vars H Φ :=
  fun _ _ _ _ _ _ f o _ _ _ => ⟨_, _, .none, f, o, h⟩

/-! names -/
inductive At : List Str → List (Option V) → Str → V → Prop where
  | head {x : Str} {ns : List Str} {v : V} {vs : List (Option V)} : At (x :: ns) (some v :: vs) x v
  | tail {n x : Str} {ns : List Str} {o : Option V} {v : V} {vs : List (Option V)} : At ns vs x v → At (n :: ns) (o :: vs) x v
theorem At.get {ns : List Str} {vs : List (Option V)} {x : Str} {v : V} (h : At ns vs x v) : ∃ i : Nat, ns[i]? = some x ∧ vs[i]? = some (some v) := by
  induction h with
  | head => exact ⟨0, rfl, rfl⟩
  | tail _ ih => obtain ⟨i, a, b⟩ := ih; exact ⟨i + 1, a, b⟩
theorem Fm.isLoc {env : Env} {P : Pr} {s : Shared} (f : Fm F env vars P H s) {x : Str} {i : Nat} (h : F.names[i]? = some x) : env.kindOf x = some .local := by
  have := List.all_eq_true.mp f.loc x (List.mem_of_getElem? h)
  unfold Env.kindOf; rw [f.sc]; exact eq_of_beq this
theorem Fm.isCel {env : Env} {P : Pr} {s : Shared} (f : Fm F env vars P H s) {x : Str} {c : Addr} (h : (x, c) ∈ F.cells) : env.kindOf x = some .cell ∨ env.kindOf x = some .free := by
  have := List.all_eq_true.mp f.cel x (List.mem_map.mpr ⟨_, h, rfl⟩)
  unfold Env.kindOf; rw [f.sc]
  rcases Bool.or_eq_true_iff.mp this with e | e
  · exact .inl (eq_of_beq e)
  · exact .inr (eq_of_beq e)
theorem Fm.fn {env : Env} {P : Pr} {s : Shared} (f : Fm F env vars P H s) : env.scope.kind = .function := by rw [f.sc]; exact f.kind
theorem WE.loc {x : Str} {pos : Pos} {v : V} {Φ : V → Hp → Prop} (h : At F.names vars x v) (q : Φ v H) (hd : (x == ("__debug__" : Str)) = false := by decide +kernel) : WE B k F (.Name x pos) vars H Φ := by
  intro A env P s _ _ f o
  obtain ⟨i, hn, hv⟩ := h.get
  obtain ⟨m, hm, hl⟩ := f.ns
  obtain ⟨val, e, is⟩ := hl i x v hn hv
  exact wpAny_Name (wpAny_loadName_local f.fn (f.isLoc hn) hm e ⟨_, _, is, f, o, q⟩) hd
theorem WE.cel {x : Str} {pos : Pos} {v : V} {c : Addr} {Φ : V → Hp → Prop} (h : (x, c) ∈ F.cells) (e : H c = some (.cell (some v))) (q : Φ v H)
    (hd : (x == ("__debug__" : Str)) = false := by decide +kernel) (hc : (x == ("__classdict__" : Str)) = false := by decide +kernel) : WE B k F (.Name x pos) vars H Φ := by
  intro A env P s _ _ f o
  obtain ⟨val, is, ho⟩ := o.cell e
  rcases f.isCel h with k | k
  · exact wpAny_Name (wpAny_loadName_cell f.fn k (f.cells _ _ h) ⟨_, ho, rfl⟩ ⟨_, _, is, f, o, q⟩) hd
  · exact wpAny_Name (wpAny_loadName_free f.fn k (f.cells _ _ h) ⟨_, ho, rfl⟩ ⟨_, _, is, f, o, q⟩ hc) hd
theorem WE.glo {x : Str} {pos : Pos} {v : Value} {Φ : V → Hp → Prop} (h : F.sc.names.lookup x = some .globalImplicit) (e : B.mg x = some v) (q : Φ (.val v) H)
    (hd : (x == ("__debug__" : Str)) = false := by decide +kernel) : WE B k F (.Name x pos) vars H Φ := by
  intro A env P s _ i f o
  refine Calls.Name_function_global f.fn (by unfold Env.kindOf; rw [f.sc]; exact h) (Calls.loadGlobal_global (mg := B.mg) ?_ e ⟨_, _, .val v, f, o, q⟩) hd
  rw [f.glob]; exact B.glob _ (i.heap o)
theorem WE.blt {x : Str} {pos : Pos} {v : Value} {Φ : V → Hp → Prop} (h : F.sc.names.lookup x = some .globalImplicit) (n : B.mg x = none) (e : B.mb x = some v) (q : Φ (.val v) H)
    (hd : (x == ("__debug__" : Str)) = false := by decide +kernel) : WE B k F (.Name x pos) vars H Φ := by
  intro A env P s _ i f o
  refine Calls.Name_function_global f.fn (by unfold Env.kindOf; rw [f.sc]; exact h) (Calls.loadGlobal_builtin (mg := B.mg) (mb := B.mb) ?_ n ?_ e ⟨_, _, .val v, f, o, q⟩) hd
  · rw [f.glob]; exact B.glob _ (i.heap o)
  · rw [f.blt]; exact B.blt _ (i.heap o)

/-! operators -/
theorem WE.bin {op : Operator} {l r : PySem.Expr} {pos : Pos} {Φ : V → Hp → Prop} (h : WE B k F l vars H fun a H1 => WE B k F r vars H1 fun b H2 => WBin B k op a b H2 Φ) :
    WE B k F (.BinOp l op r pos) vars H Φ := by
  intro A env P s rm i f o
  refine wpAny_BinOp (wpAny_mono (h A env P s rm i f o) ?_ fun _ _ f => f.elim)
  rintro x s1 ⟨a, H1, ia, f1, o1, h1⟩
  refine wpAny_mono (h1 A env P s1 rm i f1 o1) ?_ fun _ _ f => f.elim
  rintro y s2 ⟨b, H2, ib, f2, o2, h2⟩
  exact WO.fr h2 rm i f2 o2 (.cons ia (.cons ib .nil))
theorem WE.cmp {op : CmpOp} {l r : PySem.Expr} {pos : Pos} {Φ : V → Hp → Prop} (h : WE B k F l vars H fun a H1 => WE B k F r vars H1 fun b H2 => WCmp B k op a b H2 Φ)
    (hm : behindInMarks op r = false := by with_unfolding_all rfl) : WE B k F (.Compare l [op] [r] pos) vars H Φ := by
  intro A env P s rm i f o
  refine wpAny_Compare1 (wpAny_mono (h A env P s rm i f o) ?_ fun _ _ f => f.elim) hm
  rintro x s1 ⟨a, H1, ia, f1, o1, h1⟩
  refine wpAny_mono (h1 A env P s1 rm i f1 o1) ?_ fun _ _ f => f.elim
  rintro y s2 ⟨b, H2, ib, f2, o2, h2⟩
  exact WO.fr h2 rm i f2 o2 (.cons ia (.cons ib .nil))
theorem WT.cmp {op : CmpOp} {l r : PySem.Expr} {pos : Pos} {Φ : Bool → Hp → Prop} (h : WE B k F l vars H fun a H1 => WE B k F r vars H1 fun b H2 => WCmp B k op a b H2 fun c H3 => WTr B k c H3 Φ)
    (hm : behindInMarks op r = false := by with_unfolding_all rfl) : WT B k F (.Compare l [op] [r] pos) vars H Φ := by
  intro A env P s rm i f o
  refine wpAny_isTrue_Compare1 (wpAny_mono (h A env P s rm i f o) ?_ fun _ _ f => f.elim) hm
  rintro x s1 ⟨a, H1, ia, f1, o1, h1⟩
  refine wpAny_mono (h1 A env P s1 rm i f1 o1) ?_ fun _ _ f => f.elim
  rintro y s2 ⟨b, H2, ib, f2, o2, h2⟩
  refine wpAny_mono (WO.fr h2 rm i f2 o2 (.cons ia (.cons ib .nil))) ?_ fun _ _ f => f.elim
  rintro z s3 ⟨c, H3, ic, f3, o3, h3⟩
  exact WTr.fr h3 rm i f3 o3 ic
theorem WT.plain {e : PySem.Expr} {Φ : Bool → Hp → Prop} (h : WE B k F e vars H fun c H1 => WTr B k c H1 Φ)
    (hp : ∀ env whole, isTrue e env whole = (do let v ← whole; standAt e.pos; holding [v] (truthy v)) := by intros; with_unfolding_all rfl) : WT B k F e vars H Φ := by
  intro A env P s rm i f o
  rw [hp]
  refine wpAny_bind (wpAny_mono (h A env P s rm i f o) ?_ fun _ _ f => f.elim)
  rintro x s1 ⟨a, H1, ia, f1, o1, h1⟩
  exact wpAny_bind (wpAny_standAt (wpAny_holding (WTr.fr h1 rm i f1 o1 ia)))
theorem WT.not {e : PySem.Expr} {pos : Pos} {Φ : Bool → Hp → Prop} (h : WT B k F e vars H fun c H1 => Φ (!c) H1) : WT B k F (.UnaryOp .Not e pos) vars H Φ := by
  intro A env P s rm i f o
  exact wpAny_isTrue_Not (h A env P s rm i f o)
theorem WT.and {x y : PySem.Expr} {pos : Pos} {Φ : Bool → Hp → Prop} (h : WT B k F x vars H fun c H1 => (c = false → Φ false H1) ∧ (c = true → WT B k F y vars H1 Φ)) : WT B k F (.BoolOp .And [x, y] pos) vars H Φ := by
  intro A env P s rm i f o
  rw [arm_isTrue_BoolOp, arm_allTrue_cons]
  refine wpAny_bind (wpAny_mono (h A env P s rm i f o) ?_ fun _ _ f => f.elim)
  rintro c s1 ⟨H1, f1, o1, h1⟩
  cases c with
  | false => exact wpAny_pure ⟨_, f1, o1, h1.1 rfl⟩
  | true =>
    show wpAny _ _ (allTrue .And [y] env) _ _ _
    rw [arm_allTrue_cons]
    refine wpAny_bind (wpAny_mono (h1.2 rfl A env P s1 rm i f1 o1) ?_ fun _ _ f => f.elim)
    rintro c s2 ⟨H2, f2, o2, h2⟩
    cases c with
    | false => exact wpAny_pure ⟨_, f2, o2, h2⟩
    | true => exact wpAny_pure (M := B.M) (a := true) ⟨_, f2, o2, h2⟩
theorem WT.or {x y : PySem.Expr} {pos : Pos} {Φ : Bool → Hp → Prop} (h : WT B k F x vars H fun c H1 => (c = true → Φ true H1) ∧ (c = false → WT B k F y vars H1 Φ)) : WT B k F (.BoolOp .Or [x, y] pos) vars H Φ := by
  intro A env P s rm i f o
  rw [arm_isTrue_BoolOp, arm_allTrue_cons]
  refine wpAny_bind (wpAny_mono (h A env P s rm i f o) ?_ fun _ _ f => f.elim)
  rintro c s1 ⟨H1, f1, o1, h1⟩
  cases c with
  | true => exact wpAny_pure ⟨_, f1, o1, h1.1 rfl⟩
  | false =>
    show wpAny _ _ (allTrue .Or [y] env) _ _ _
    rw [arm_allTrue_cons]
    refine wpAny_bind (wpAny_mono (h1.2 rfl A env P s1 rm i f1 o1) ?_ fun _ _ f => f.elim)
    rintro c s2 ⟨H2, f2, o2, h2⟩
    cases c with
    | true => exact wpAny_pure ⟨_, f2, o2, h2⟩
    | false => exact wpAny_pure (M := B.M) (a := false) ⟨_, f2, o2, h2⟩
theorem WE.and {x y : PySem.Expr} {pos : Pos} {Φ : V → Hp → Prop} (h : WE B k F x vars H fun v H1 => WTr B k v H1 fun c H2 => (c = false → Φ v H2) ∧ (c = true → WE B k F y vars H2 Φ)) : WE B k F (.BoolOp .And [x, y] pos) vars H Φ := by
  intro A env P s rm i f o
  refine wpAny_And2 (wpAny_mono (h A env P s rm i f o) ?_ fun _ _ f => f.elim)
  rintro v s1 ⟨a, H1, ia, f1, o1, h1⟩
  refine wpAny_mono (WTr.fr h1 rm i f1 o1 ia) ?_ fun _ _ f => f.elim
  rintro c s2 ⟨H2, f2, o2, h2⟩
  cases c with
  | false => exact ⟨_, _, ia, f2, o2, h2.1 rfl⟩
  | true => exact h2.2 rfl A env P s2 rm i f2 o2
theorem WE.ifx {c x y : PySem.Expr} {pos : Pos} {Φ : V → Hp → Prop} (h : WT B k F c vars H fun b H1 => (b = true → WE B k F x vars H1 Φ) ∧ (b = false → WE B k F y vars H1 Φ)) : WE B k F (.IfExp c x y pos) vars H Φ := by
  intro A env P s rm i f o
  refine wpAny_IfExp (wpAny_mono (h A env P s rm i f o) ?_ fun _ _ f => f.elim)
  rintro b s1 ⟨H1, f1, o1, h1⟩
  cases b with
  | false => exact h1.2 rfl A env P s1 rm i f1 o1
  | true => exact h1.1 rfl A env P s1 rm i f1 o1
theorem WE.not {e : PySem.Expr} {pos : Pos} {Φ : V → Hp → Prop} (h : WE B k F e vars H fun v H1 => WTr B k v H1 fun c H2 => Φ (.bool (!c)) H2) : WE B k F (.UnaryOp .Not e pos) vars H Φ := by
  intro A env P s rm i f o
  refine wpAny_UnaryOp (wpAny_mono (h A env P s rm i f o) ?_ fun _ _ f => f.elim)
  rintro v s1 ⟨a, H1, ia, f1, o1, h1⟩
  refine not_of (wpAny_mono (WTr.fr h1 rm i f1 o1 ia) ?_ fun _ _ f => f.elim)
  rintro c s2 ⟨H2, f2, o2, h2⟩
  exact ⟨_, _, .bool _, f2, o2, h2⟩
theorem WE.neg {i : Int} {n : Nat} {p pos : Pos} {Φ : V → Hp → Prop} (h : Φ (.int (-i)) H) : WE B k F (.UnaryOp .USub (.Constant (.int i) n p) pos) vars H Φ := by
  intro A env P s rm _ f o
  exact wpAny_UnaryOp (wpAny_Constant_int (PySem.P.neg_int ⟨_, _, .int _ _, f.toks _, o.toks _, h⟩))

/-! rows of expressions, displays -/
theorem WEs.nil {Φ : List V → Hp → Prop} (h : Φ [] H) : WEs B k F [] vars H Φ := fun _ _ _ _ _ _ _ f o => Calls.spliced_nil ⟨_, _, .nil, f, o, h⟩
theorem WEs.cons {e : PySem.Expr} {es : List PySem.Expr} {Φ : List V → Hp → Prop} (h : WE B k F e vars H fun v H1 => WEs B k F es vars H1 fun vs H2 => Φ (v :: vs) H2)
    (hs : ∀ env, starEach (e :: es) env = (false, eval e env) :: starEach es env := by intro; with_unfolding_all rfl) : WEs B k F (e :: es) vars H Φ := by
  intro A env P s pos rm i f o
  rw [hs]
  show wpAny _ _ (spliced ((false, eval e env) :: backTo pos (starEach es env))) _ _ _
  refine Calls.spliced_cons (wpAny_mono (h A env P s rm i f o) ?_ fun _ _ f => f.elim)
  rintro v s1 ⟨a, H1, ia, f1, o1, h1⟩
  refine wpAny_mono (h1 A env P s1 pos rm i f1 o1) ?_ fun _ _ f => f.elim
  rintro vs s2 ⟨as, H2, ias, f2, o2, h2⟩
  exact ⟨_, _, .cons ia ias, f2, o2, h2⟩
theorem WE.list {es : List PySem.Expr} {pos : Pos} {Φ : V → Hp → Prop} (h : WEs B k F es vars H fun vs H1 => vs.length ≤ sizeLine ∧ ∀ a, H1 a = Option.none → Φ (.ref a) (put H1 a (.list vs))) : WE B k F (.List es pos) vars H Φ := by
  intro A env P s rm i f o
  rw [arm_eval_List]
  refine wpAny_bind (wpAny_standAt (wpAny_bind (wpAny_mono (h A env P s pos rm i f o) ?_ fun _ _ f => f.elim)))
  rintro vs s1 ⟨as, H1, ia, f1, o1, hz, h1⟩
  refine wpAny_newObj_type ?_ (by show vs.toArray.size ≤ sizeLine; simpa [← ia.length] using hz)
  exact ⟨_, _, .ref _, f1.pushH _ _ _, o1.pushH (.list 0 ia) _, h1 _ o1.newH⟩
theorem WE.tup {es : List PySem.Expr} {n : Nat} {pos : Pos} {Φ : V → Hp → Prop} (h : WEs B k F es vars H fun vs H1 => vs.length ≤ sizeLine ∧ ∀ a, H1 a = Option.none → Φ (.ref a) (put H1 a (.tup vs))) : WE B k F (.Tuple es n pos) vars H Φ := by
  intro A env P s rm i f o
  rw [arm_eval_Tuple]
  refine wpAny_bind (wpAny_standAt (wpAny_bind (wpAny_mono (h A env P s pos rm i f o) ?_ fun _ _ f => f.elim)))
  rintro vs s1 ⟨as, H1, ia, f1, o1, hz, h1⟩
  refine wpAny_newObj_type ?_ (by show vs.toArray.size ≤ sizeLine; simpa [← ia.length] using hz)
  exact ⟨_, _, .ref _, f1.pushH _ _ _, o1.pushH (.tup 0 ia) _, h1 _ o1.newH⟩

/-! calls -/
/-- a thing that is called: no object of the heap, or a def of the base, or a lambda -/
inductive Callee (B : Base) (H : Hp) : V → Prop where
  | blt {id : String} : Callee B H (.val (.builtin id))
  | typ {id : String} : Callee B H (.val (.type id))
  | fn {a : Addr} {ob : Obj} {fd : FuncData} : B.obj a = some ob → ob.data = .func fd → Callee B H (.val (.ref a))
  | lam {a : Addr} {ob : Obj} {fd : FuncData} : H a = some (.raw ob) → ob.data = .func fd → Callee B H (.ref a)
def Calls1 (h : Heap) (f : Value) : Prop := (∀ a, f ≠ .ref a) ∨ ∃ a o fd, f = .ref a ∧ h.get? a = some o ∧ o.data = .func fd
theorem Callee.at {v : V} {val : Value} (c : Callee B H v) (i : Is v val) {P : Pr} {s : Shared} (b : B.In P) (o : Ok P H s) : Calls1 s.heap val := by
  cases c with
  | blt => cases i; exact .inl fun _ e => nomatch e
  | typ => cases i; exact .inl fun _ e => nomatch e
  | fn e d => cases i; exact .inr ⟨_, _, _, rfl, b.heap o _ _ e, d⟩
  | lam e d => cases i; exact .inr ⟨_, _, _, rfl, o.raw e, d⟩
theorem callWith_any {M : Model} {A : Around} {E : Value → Shared → Prop} {s : Shared} {pos : Pos} {f : Value} {first : List Value} {args : List (Bool × Sem Value)} {kws : List (Option Str × Sem Value)} {Q : Value → Shared → Prop}
    (hp : args.any (·.1) = false) (hk : kws.any (·.1.isNone) = false)
    (h : wpAny M A (evalArgs f true args kws) (fun a s₁ => Calls1 s₁.heap f ∧ wpAny M A (call f (first ++ a.pos) a.kw) Q E s₁) E s) : wpAny M A (callWith pos f first args kws) Q E s := by
  unfold callWith
  refine wpAny_bind (wpAny_holding (wpAny_mono h (fun a s₁ h₁ => wpAny_bind (wpAny_standAt ?_)) fun _ _ x => x))
  simp only [hp, hk, Bool.or_false]
  have tail : ∀ {t : Sem Value}, wpAny M A t Q E s₁ → wpAny M A (t >>= fun r => holding [r] point >>= fun _ => pure r) Q E s₁ :=
    fun ht => wpAny_bind (wpAny_mono ht (fun r s₂ hr => wpAny_bind (wpAny_holding (wpAny_point (wpAny_pure hr)))) fun _ _ x => x)
  obtain ⟨c, h₁⟩ := h₁
  rcases c with c | ⟨a', o, fd, rfl, ho, hd⟩
  · have e : keeperOf f = pure .machine := by
      cases f with
      | ref a => exact absurd rfl (c a)
      | _ => rfl
    rw [e]
    exact wpAny_bind (wpAny_pure (tail h₁))
  · refine wpAny_bind (m := keeperOf (.ref a')) ?_
    unfold keeperOf
    refine wpAny_bind (wpAny_load ho ?_)
    rw [hd]
    refine wpAny_pure ?_
    dsimp only
    split
    · exact tail h₁
    · exact tail (by unfold callMarked; exact Calls.wpAny_keep h₁)
theorem evalArgs_any {M : Model} {A : Around} {E : Value → Shared → Prop} {s : Shared} {f : Value} {args : List (Bool × Sem Value)} {Q : Args → Shared → Prop} (hp : args.any (·.1) = false)
    (h : wpAny M A (spliced args) (fun vs s₁ => Q ⟨vs, []⟩ s₁) E s) : wpAny M A (evalArgs f true args []) Q E s := by
  cases args with
  | nil =>
    unfold evalArgs
    show wpAny M A (spliced [] >>= _) Q E s
    refine wpAny_bind (wpAny_mono h (fun vs s' h' => ?_) fun _ _ x => x)
    refine wpAny_holding ?_
    exact wpAny_bind (wpAny_pure (wpAny_bind (wpAny_pure (wpAny_pure h'))))
  | cons x rest =>
    obtain ⟨b, t⟩ := x
    have : b = false := by cases b; rfl; simp at hp
    subst this
    exact Calls.evalArgs_plain h
theorem backTo_nostar {es : List PySem.Expr} {env : Env} {pos : Pos} (h : (starEach es env).any (·.1) = false) : (backTo pos (starEach es env)).any (·.1) = false := by
  unfold backTo
  rw [List.any_map]
  exact h
theorem WE.call {f : Str} {p pos : Pos} {es : List PySem.Expr} {Φ : V → Hp → Prop}
    (h : WE B k F (.Name f p) vars H fun fv H1 => WEs B k F es vars H1 fun vs H2 => Callee B H2 fv ∧ ∀ val, Is fv val → WC B k val vs H2 Φ)
    (hp : ∀ env, (starEach es env).any (·.1) = false := by intro; with_unfolding_all rfl) : WE B k F (.Call (.Name f p) es [] pos) vars H Φ := by
  intro A env P s rm i f o
  rw [arm_eval_Call_Name']
  refine wpAny_bind (wpAny_mono (h A env P s rm i f o) ?_ fun _ _ f => f.elim)
  rintro val s1 ⟨v, H1, ia, f1, o1, h1⟩
  refine callWith_any (backTo_nostar (hp env)) rfl (evalArgs_any (backTo_nostar (hp env)) ?_)
  refine wpAny_mono (h1 A env P s1 pos rm i f1 o1) ?_ fun _ _ f => f.elim
  rintro vs s2 ⟨as, H2, ias, f2, o2, c, h2⟩
  exact ⟨c.at ia i o2, WO.fr (h2 _ ia) rm i f2 o2 ias⟩
/-- with one keyword -/
abbrev WCk (B : Base) (k : Nat) (f : Value) (n : Str) (args : List V) (H : Hp) (Φ : V → Hp → Prop) : Prop := WO B k (fun vals => call f (vals.drop 1) [(n, vals.getD 0 .none)]) args H Φ
theorem WE.callk {f n : Str} {p pos kp : Pos} {e : PySem.Expr} {es : List PySem.Expr} {Φ : V → Hp → Prop}
    (h : WE B k F (.Name f p) vars H fun fv H1 => WEs B k F es vars H1 fun vs H2 => WE B k F e vars H2 fun kv H3 => Callee B H3 fv ∧ ∀ val, Is fv val → WCk B k val n (kv :: vs) H3 Φ)
    (hp : ∀ env, (starEach es env).any (·.1) = false := by intro; with_unfolding_all rfl) : WE B k F (.Call (.Name f p) es [⟨some n, e, kp⟩] pos) vars H Φ := by
  intro A env P s rm i f o
  rw [arm_eval_Call_Name']
  refine wpAny_bind (wpAny_mono (h A env P s rm i f o) ?_ fun _ _ f => f.elim)
  rintro val s1 ⟨v, H1, ia, f1, o1, h1⟩
  refine callWith_any (backTo_nostar (hp env)) rfl ?_
  have hh := backTo_nostar (pos := pos) (hp env)
  have key : wpAny B.M A (spliced (backTo pos (starEach es env))) (fun vs s₁ => wpAny B.M A (evalAll [(do let v ← eval e env; standAt pos; pure v : Sem Value)]) (fun ks s₂ => Calls1 s₂.heap val ∧ wpAny B.M A (PySem.call val ([] ++ vs) ([n].zip ks)) (fun val s' => ∃ v H', Is v val ∧ Fm F env vars P H' s' ∧ Ok P H' s' ∧ Φ v H') (fun _ _ => False) s₂) (fun _ _ => False) s₁) (fun _ _ => False) s1 := by
    refine wpAny_mono (h1 A env P s1 pos rm i f1 o1) ?_ fun _ _ f => f.elim
    rintro vs s2 ⟨as, H2, ias, f2, o2, h2⟩
    refine wpAny_evalAll_cons (wpAny_bind (wpAny_mono (h2 A env P s2 rm i f2 o2) ?_ fun _ _ f => f.elim))
    rintro kv s3 ⟨ka, H3, ika, f3, o3, c, h3⟩
    refine wpAny_bind (wpAny_standAt (wpAny_pure (wpAny_evalAll_nil ⟨c.at ia i o3, ?_⟩)))
    exact WO.fr (h3 _ ia) rm i f3 o3 (.cons ika ias)
  cases q : backTo pos (starEach es env) with
  | nil => rw [q] at key; exact evalArgs_kw_nil rfl (by
      unfold spliced at key
      exact fun Γ pp hΓ => key Γ pp hΓ Γ pp hΓ)
  | cons x rest =>
    rw [q] at key hh
    obtain ⟨b, t⟩ := x
    have : b = false := by cases b; rfl; simp at hh
    subst this
    exact evalArgs_kw rfl key
end
end Mine
end
noncomputable section
open PySem PySem.W PyProof.Rows
namespace Mine
theorem Ok.grow {P : Pr} {H : Hp} {s : Shared} (K : Ok P H s) {h' : Heap} (hk : ∀ b o, s.heap.get? b = some o → h'.get? b = some o) (t : Nat) : Ok P H { s with heap := h', toks := t } :=
  ⟨fun a o h => hk _ _ (K.prot a o h), fun a o h => let ⟨x, e, i⟩ := K.objs a o h; ⟨x, hk _ _ e, i⟩, K.dis, K.gens, K.bare, K.os⟩
/-- a list's object, just so -/
theorem Ok.isL {P : Pr} {H : Hp} {s : Shared} (K : Ok P H s) {a : Addr} {xs : List V} (h : H a = some (.list xs)) : ∃ vs n, Are xs vs ∧ IsL s.heap a vs.toArray n := by
  obtain ⟨vs, n, i, e⟩ := K.list h
  exact ⟨vs, n, i, e⟩
theorem Ok.mapL {P : Pr} {H : Hp} {s : Shared} (K : Ok P H s) {a : Addr} {o : O} (h : H a = some o) {vs : List Value} {n : Nat} (e : IsL s.heap a vs.toArray n) (f : Array Value → Array Value) {ys : List V} {us : List Value} (hf : f vs.toArray = us.toArray) (i : Are ys us) (t : Nat) :
    Ok P (put H a (.list ys)) { s with heap := s.heap.update a (Obj.mapSeq f), toks := t } := by
  have u := e.update f
  rw [hf] at u
  exact K.updH h (Heap.SameBut.update ..) u (.list _ i) t
theorem WO.two {B : Base} {k : Nat} {H : Hp} {g : List Value → Sem Value} {a b : V} {Φ : V → Hp → Prop}
    (h : ∀ A P s x y, Room k A → B.In P → Ok P H s → Is a x → Is b y → wpAny B.M A (g [x, y]) (fun val s' => ∃ v H', Is v val ∧ Ok P H' s' ∧ Φ v H') (fun _ _ => False) s) : WO B k g [a, b] H Φ := by
  intro A P s vals r i o ha
  cases ha with
  | cons ha hb => cases hb with
    | cons hb hn => cases hn; exact h A P s _ _ r i o ha hb
theorem WO.one {B : Base} {k : Nat} {H : Hp} {g : List Value → Sem Value} {a : V} {Φ : V → Hp → Prop}
    (h : ∀ A P s x, Room k A → B.In P → Ok P H s → Is a x → wpAny B.M A (g [x]) (fun val s' => ∃ v H', Is v val ∧ Ok P H' s' ∧ Φ v H') (fun _ _ => False) s) : WO B k g [a] H Φ := by
  intro A P s vals r i o ha
  cases ha with
  | cons ha hb => cases hb; exact h A P s _ r i o ha

section
variable {B : Base} {k : Nat} {F : FI} {vars : List (Option V)} {H : Hp} {i j : Int} {x y : Str}

/-! ints -/
theorem bin_add {Φ : V → Hp → Prop} (h : Φ (.int (i + j)) H) : WBin B k .Add (.int i) (.int j) H Φ :=
  WO.two fun A P s x y r ib o hx hy => by cases hx; cases hy; exact PySem.P.add_int ⟨_, _, .int _ _, o.toks _, h⟩
theorem bin_sub {Φ : V → Hp → Prop} (h : Φ (.int (i - j)) H) : WBin B k .Sub (.int i) (.int j) H Φ :=
  WO.two fun A P s x y r ib o hx hy => by cases hx; cases hy; exact PySem.P.sub_int ⟨_, _, .int _ _, o.toks _, h⟩
theorem inp_add {Φ : V → Hp → Prop} (h : Φ (.int (i + j)) H) : WInp B k .Add (.int i) (.int j) H Φ :=
  WO.two fun A P s x y r ib o hx hy => by cases hx; cases hy; exact PySem.P.iadd_int ⟨_, _, .int _ _, o.toks _, h⟩
theorem inp_sub {Φ : V → Hp → Prop} (h : Φ (.int (i - j)) H) : WInp B k .Sub (.int i) (.int j) H Φ :=
  WO.two fun A P s x y r ib o hx hy => by cases hx; cases hy; exact PySem.P.isub_int ⟨_, _, .int _ _, o.toks _, h⟩
theorem bin_mul {Φ : V → Hp → Prop} (hm : IntMulOk i j) (h : Φ (.int (i * j)) H) : WBin B k .Mult (.int i) (.int j) H Φ :=
  WO.two fun A P s x y r ib o hx hy => by cases hx; cases hy; exact PySem.P.mul_int ⟨_, _, .int _ _, o.toks _, h⟩ hm
theorem bin_mod {Φ : V → Hp → Prop} (hj : j ≠ 0) (h : Φ (.int (i.fmod j)) H) : WBin B k .Mod (.int i) (.int j) H Φ :=
  WO.two fun A P s x y r ib o hx hy => by cases hx; cases hy; exact mod_int' hj ⟨_, _, .int _ _, o.toks _, h⟩
theorem bin_div {Φ : V → Hp → Prop} (hj : j ≠ 0) (hp : Builtin.divisionGoesByPylong i j = false) (h : Φ (.int (i.fdiv j)) H) : WBin B k .FloorDiv (.int i) (.int j) H Φ :=
  WO.two fun A P s x y r ib o hx hy => by cases hx; cases hy; exact floordiv_int hj ⟨_, _, .int _ _, o.toks _, h⟩ (.inl hp)
theorem bin_pow {Φ : V → Hp → Prop} (hj : 0 ≤ j) (hz : (Builtin.Int.intBits i : Int) * j ≤ 2 ^ 27) (h : Φ (.int (i ^ j.toNat)) H) : WBin B k .Pow (.int i) (.int j) H Φ :=
  WO.two fun A P s x y r ib o hx hy => by cases hx; cases hy; exact pow_int hj hz ⟨_, _, .int _ _, o.toks _, h⟩
theorem cmp_lt {Φ : V → Hp → Prop} (h : Φ (.bool (decide (i < j))) H) : WCmp B k .Lt (.int i) (.int j) H Φ :=
  WO.two fun A P s x y r ib o hx hy => by cases hx; cases hy; exact PySem.P.lt_int ⟨_, _, .bool _, o, h⟩
theorem cmp_gt {Φ : V → Hp → Prop} (h : Φ (.bool (decide (i > j))) H) : WCmp B k .Gt (.int i) (.int j) H Φ :=
  WO.two fun A P s x y r ib o hx hy => by cases hx; cases hy; exact PySem.P.gt_int ⟨_, _, .bool _, o, h⟩
theorem cmp_ge {Φ : V → Hp → Prop} (h : Φ (.bool (decide (i ≥ j))) H) : WCmp B k .GtE (.int i) (.int j) H Φ :=
  WO.two fun A P s x y r ib o hx hy => by cases hx; cases hy; exact PySem.P.ge_int ⟨_, _, .bool _, o, h⟩
theorem beq_dec {α : Type} [DecidableEq α] (a b : α) : (a == b) = decide (a = b) := by cases h : a == b <;> simp_all
theorem bne_dec {α : Type} [DecidableEq α] (a b : α) : (a != b) = decide (a ≠ b) := by by_cases h : a = b <;> simp [h]
theorem cmp_eq {Φ : V → Hp → Prop} (h : Φ (.bool (decide (i = j))) H) : WCmp B k .Eq (.int i) (.int j) H Φ :=
  WO.two fun A P s x y r ib o hx hy => by cases hx; cases hy; exact PySem.P.eq_int ⟨_, _, .bool _, o, by rw [beq_dec]; exact h⟩
theorem cmp_ne {Φ : V → Hp → Prop} (h : Φ (.bool (decide (i ≠ j))) H) : WCmp B k .NotEq (.int i) (.int j) H Φ :=
  WO.two fun A P s x y r ib o hx hy => by cases hx; cases hy; exact PySem.P.ne_int ⟨_, _, .bool _, o, by rw [bne_dec]; exact h⟩
theorem cmp_ltb {p q : Bool} {Φ : V → Hp → Prop} (h : Φ (.bool (!p && q)) H) : WCmp B k .Lt (.bool p) (.bool q) H Φ :=
  WO.two fun A P s x y r ib o hx hy => by cases hx; cases hy; exact lt_bool ⟨_, _, .bool _, o, by cases p <;> cases q <;> exact h⟩
theorem tr_bool {b : Bool} {Φ : Bool → Hp → Prop} (h : Φ b H) : WTr B k (.bool b) H Φ := fun A P s val r ib o is => by
  cases is; exact wpAny_truthy_bool ⟨_, o, h⟩

/-! texts -/
theorem cmp_eqs {Φ : V → Hp → Prop} (h : Φ (.bool (decide (x = y))) H) : WCmp B k .Eq (.str x) (.str y) H Φ :=
  WO.two fun A P s _ _ r ib o hx hy => by cases hx; cases hy; exact PyProof.Rows.eq_str ⟨_, _, .bool _, o, by rw [beq_dec]; exact h⟩
theorem cmp_nes {Φ : V → Hp → Prop} (h : Φ (.bool (decide (x ≠ y))) H) : WCmp B k .NotEq (.str x) (.str y) H Φ :=
  WO.two fun A P s _ _ r ib o hx hy => by cases hx; cases hy; exact PyProof.Rows.ne_str ⟨_, _, .bool _, o, by rw [bne_dec]; exact h⟩
theorem bin_adds {Φ : V → Hp → Prop} (hz : x.length + y.length ≤ sizeLine) (h : Φ (.str (x ++ y)) H) : WBin B k .Add (.str x) (.str y) H Φ :=
  WO.two fun A P s _ _ r ib o hx hy => by cases hx; cases hy; exact PyProof.Rows.add_str (fun t' tk => ⟨_, _, .str _ _, o.toks _, h⟩) hz
theorem cmp_notIn {c : Nat} {Φ : V → Hp → Prop} (h : Φ (.bool (!decide (c ∈ x.cps.toList))) H) : WCmp B k .NotIn (.str ⟨#[c]⟩) (.str x) H Φ :=
  WO.two fun A P s _ _ r ib o hx hy => by cases hx; cases hy; exact PySem.P.notIn_str ⟨_, _, .bool _, o, by rw [StrLaws.found_one]; exact h⟩
theorem call_lens {Φ : V → Hp → Prop} (hz : (x.length : Int) < 2 ^ 63) (h : Φ (.int x.length) H) : WC B k (.builtin "len") [.str x] H Φ :=
  WO.one fun A P s _ r ib o hx => by cases hx; exact PyProof.Rows.len_str (by omega) ⟨_, _, .int _ _, o.toks _, h⟩

/-! is None -/
theorem cmp_is {a : V} {b : Bool} {Φ : V → Hp → Prop} (hb : ∀ v, Is a v → (v == Value.none) = b) (h : Φ (.bool b) H) : WCmp B k .Is a .none H Φ :=
  WO.two fun A P s v w r ib o hx hy => by
    cases hy
    have e := hb v hx
    refine PyProof.Rows.is_none_gen (v := v) ⟨_, _, .bool _, o, ?_⟩
    show Φ (.bool (v == Value.none)) H
    rw [e]; exact h

/-! lists -/
theorem call_len {a : Addr} {xs : List V} {Φ : V → Hp → Prop} (hl : H a = some (.list xs)) (hz : (xs.length : Int) < 2 ^ 63) (h : Φ (.int xs.length) H) : WC B k (.builtin "len") [.ref a] H Φ :=
  WO.one fun A P s _ r ib o hx => by
    cases hx
    obtain ⟨vs, n, i, e⟩ := o.isL hl
    have hn : vs.toArray.size = xs.length := by simp [i.length]
    exact Calls.call_len_list e.isList (by rw [hn]; exact hz) ⟨_, _, .int _ _, o.toks _, by rw [hn]; exact h⟩
theorem call_append {a : Addr} {v : V} {xs : List V} {Φ : V → Hp → Prop} (hl : H a = some (.list xs)) (hz : xs.length ≤ sizeLine) (h : Φ .none (put H a (.list (xs ++ [v])))) : WC B k (.builtin "list.append") [.ref a, v] H Φ :=
  WO.two fun A P s _ w r ib o hx hy => by
    cases hx
    obtain ⟨vs, n, i, e⟩ := o.isL hl
    refine call_meets F.slot_list_append ⟨_, e, rfl⟩ F.entry_list_append (F.args_list_append_2 _ _) (list_append a vs.toArray n w (by simpa [i.length] using hz)) ⟨e, ?_⟩
    exact ⟨_, _, .none, o.mapL hl e _ (us := vs ++ [w]) (by simp) (i.append (.cons hy .nil)) _, h⟩
theorem call_pop {a : Addr} {v : V} {xs : List V} {Φ : V → Hp → Prop} (hl : H a = some (.list (xs ++ [v]))) (hz : xs.length < sizeLine) (h : Φ v (put H a (.list xs))) : WC B k (.builtin "list.pop") [.ref a] H Φ :=
  WO.one fun A P s _ r ib o hx => by
    cases hx
    obtain ⟨vs, n, i, e⟩ := o.isL hl
    have hl' : vs.length = xs.length + 1 := by rw [← i.length]; simp
    obtain ⟨w, hw, iw⟩ := i.get (i := xs.length) (x := v) (by simp)
    have i' : Are xs (vs.take xs.length) := by have := i.take xs.length; simpa using this
    refine call_meets F.slot_list_pop ⟨_, e, rfl⟩ F.entry_list_pop (F.args_list_pop_1 _) (MeetsSeq.list_pop_last a vs.toArray n w (by simpa [hl'] using (List.getElem?_eq_some_iff.mp hw).2) (by simp [hl']; omega)) ⟨e, ?_⟩
    refine ⟨_, _, iw, o.mapL hl e _ (us := vs.take xs.length) ?_ i' _, h⟩
    simp only [List.size_toArray, hl', Nat.add_sub_cancel, Array.eraseIdxIfInBounds, Nat.lt_succ_self, dif_pos]
    apply Array.ext'
    simp [List.eraseIdx_eq_take_drop_succ, List.drop_of_length_le (show vs.length ≤ xs.length + 1 by omega)]
end
end Mine
end
noncomputable section
open PySem PySem.W PyProof.Rows
namespace Mine
/-! stores into names -/
inductive SetAt : List Str → List (Option V) → Str → V → List (Option V) → Prop where
  | head {x : Str} {ns : List Str} {o : Option V} {v : V} {vs : List (Option V)} : SetAt (x :: ns) (o :: vs) x v (some v :: vs)
  | tail {n x : Str} {ns : List Str} {o : Option V} {v : V} {vs us : List (Option V)} : SetAt ns vs x v us → SetAt (n :: ns) (o :: vs) x v (o :: us)
theorem SetAt.get {ns : List Str} {vs us : List (Option V)} {x : Str} {v : V} (h : SetAt ns vs x v us) : ∃ i : Nat, ns[i]? = some x ∧ us = vs.set i (some v) := by
  induction h with
  | head => exact ⟨0, rfl, rfl⟩
  | tail _ ih => obtain ⟨i, a, b⟩ := ih; exact ⟨i + 1, a, by rw [b]; rfl⟩
section
variable {B : Base} {k : Nat} {F : FI} {env : Env} {vars us : List (Option V)} {P : Pr} {H : Hp} {s : Shared} {x : Str} {v : V} {val : Value}
theorem nodup_get {α : Type} {l : List α} (h : l.Nodup) {i j : Nat} {x : α} (a : l[i]? = some x) (b : l[j]? = some x) : i = j := by
  obtain ⟨hi, ei⟩ := List.getElem?_eq_some_iff.mp a
  obtain ⟨hj, ej⟩ := List.getElem?_eq_some_iff.mp b
  exact (List.getElem_inj h).mp (ei.trans ej.symm)
theorem Fm.storeLoc {M : Model} {A : Around} {Q : Unit → Shared → Prop} {E : Value → Shared → Prop} (f : Fm F env vars P H s) (o : Ok P H s) (h : SetAt F.names vars x v us) (i : Is v val)
    (q : ∀ h' t, Fm F env us P H { s with heap := h', toks := t } → Ok P H { s with heap := h', toks := t } → Heap.SameBut env.locals s.heap h' → Q () { s with heap := h', toks := t }) : wpAny M A (storeName env x val) Q E s := by
  obtain ⟨j, hj, rfl⟩ := h.get
  obtain ⟨m, hm, hl⟩ := f.ns
  refine wpAny_storeName_local (f.isLoc hj) hm (fun h' hn hs => ?_) (by rw [f.fn]; rfl)
  refine q _ _ ⟨f.sc, f.kind, f.glob, f.blt, f.nd, f.loc, f.cel, f.locP, f.locH, ⟨_, hn, fun n y w hy hw => ?_⟩, f.cells, f.coro, f.cod⟩ (o.updN f.locP f.locH hs _) hs
  by_cases e : n = j
  · subst e
    rw [hj] at hy; cases hy
    have hlen : n < vars.length := by
      rcases Nat.lt_or_ge n vars.length with h | h
      · exact h
      · rw [List.getElem?_eq_none (by simpa using h)] at hw; cases hw
    rw [List.getElem?_set_self hlen] at hw; cases hw
    exact ⟨val, if_pos rfl, i⟩
  · rw [List.getElem?_set_ne (Ne.symm e)] at hw
    have : y ≠ x := fun e' => e (nodup_get f.nd (e' ▸ hy) hj)
    obtain ⟨u, hu, iu⟩ := hl n y w hy hw
    exact ⟨u, (if_neg this).trans hu, iu⟩
theorem Fm.storeCel {M : Model} {A : Around} {Q : Unit → Shared → Prop} {E : Value → Shared → Prop} {c : Addr} {w : Option V} (f : Fm F env vars P H s) (o : Ok P H s) (hk : F.sc.names.lookup x = some .cell) (h : (x, c) ∈ F.cells) (hc : H c = some (.cell w)) (i : Is v val)
    (q : ∀ h', Fm F env vars P (put H c (.cell (some v))) { s with heap := h' } → Ok P (put H c (.cell (some v))) { s with heap := h' } → Q () { s with heap := h' }) : wpAny M A (storeName env x val) Q E s := by
  have hl : env.kindOf x = some .cell := by unfold Env.kindOf; rw [f.sc]; exact hk
  obtain ⟨cv, ho⟩ := o.anyCell hc
  unfold storeName
  simp only [hl, f.fn]
  refine wpAny_bind (wpAny_cellOf (f.cells _ _ h) ?_)
  unfold cellSet
  refine wpAny_bind (wpAny_load ho ?_)
  refine wpAny_update ho (q _ (f.updH hc (Heap.SameBut.update ..) _) (o.updH hc (Heap.SameBut.update ..) (Heap.get?_update_self _ ho rfl) (.cell i) _))
end
/-- a store into a name -/
def WSt (B : Base) (k : Nat) (F : FI) (x : Str) (v : V) (vars : List (Option V)) (H : Hp) (Φ : List (Option V) → Hp → Prop) : Prop :=
  ∀ A env P s val, Room k A → B.In P → Fm F env vars P H s → Ok P H s → Is v val →
    wpAny B.M A (storeName env x val) (fun _ s' => ∃ vars' H', Fm F env vars' P H' s' ∧ Ok P H' s' ∧ Φ vars' H') (fun _ _ => False) s
section
variable {B : Base} {k : Nat} {F : FI} {vars us : List (Option V)} {H : Hp}
theorem WSt.loc {x : Str} {v : V} {Φ : List (Option V) → Hp → Prop} (h : SetAt F.names vars x v us) (q : Φ us H) : WSt B k F x v vars H Φ :=
  fun _ _ _ _ _ _ _ f o i => f.storeLoc o h i fun _ _ f' o' _ => ⟨_, _, f', o', q⟩
theorem WSt.cel {x : Str} {v : V} {c : Addr} {w : Option V} {Φ : List (Option V) → Hp → Prop} (h : (x, c) ∈ F.cells) (hc : H c = some (.cell w)) (q : Φ vars (put H c (.cell (some v))))
    (hk : F.sc.names.lookup x = some .cell := by decide +kernel) : WSt B k F x v vars H Φ :=
  fun _ _ _ _ _ _ _ f o i => f.storeCel o hk h hc i fun _ f' o' => ⟨_, _, f', o', q⟩
theorem WSt.mono {x : Str} {v : V} {Φ Ψ : List (Option V) → Hp → Prop} (h : WSt B k F x v vars H Φ) (g : ∀ v H', Φ v H' → Ψ v H') : WSt B k F x v vars H Ψ :=
  fun A env P s val r i f o is => noE (h A env P s val r i f o is) fun _ _ ⟨v, H', a, b, c⟩ => ⟨v, H', a, b, g _ _ c⟩

/-! targets -/
theorem WA.name {x : Str} {p : Pos} {v : V} {Φ : List (Option V) → Hp → Prop} (h : WSt B k F x v vars H Φ) : WA B k F (.Name x p) v vars H Φ :=
  fun A env P s val r i f o is => wpAny_assign_Name (h A env P s val r i f o is)
/-- a row of targets, with their values -/
def WAs (B : Base) (k : Nat) (F : FI) (ts : List PySem.Expr) (vs : List V) (vars : List (Option V)) (H : Hp) (Φ : List (Option V) → Hp → Prop) : Prop :=
  ∀ A env P s vals, Room k A → B.In P → Fm F env vars P H s → Ok P H s → Are vs vals →
    wpAny B.M A (assignInOrder ((assignEach ts env).map (·.2)) vals) (fun _ s' => ∃ vars' H', Fm F env vars' P H' s' ∧ Ok P H' s' ∧ Φ vars' H') (fun _ _ => False) s
theorem WAs.nil {Φ : List (Option V) → Hp → Prop} (h : Φ vars H) : WAs B k F [] [] vars H Φ := by
  intro A env P s vals r i f o is
  cases is
  exact wpAny_pure ⟨_, _, f, o, h⟩
theorem WAs.cons {t : PySem.Expr} {ts : List PySem.Expr} {v : V} {vs : List V} {Φ : List (Option V) → Hp → Prop} (h : WA B k F t v vars H fun vars1 H1 => WAs B k F ts vs vars1 H1 Φ)
    (ht : ∀ env, assignEach (t :: ts) env = (false, assign t env) :: assignEach ts env := by intro; with_unfolding_all rfl) : WAs B k F (t :: ts) (v :: vs) vars H Φ := by
  intro A env P s vals r i f o is
  cases is with
  | @cons _ val _ vals is iss =>
  rw [ht]
  show wpAny _ _ (do holding vals (assign t env val); assignInOrder ((assignEach ts env).map (·.2)) vals) _ _ _
  refine wpAny_bind (wpAny_holding (wpAny_mono (h A env P s val r i f o is) ?_ fun _ _ f => f.elim))
  rintro _ s1 ⟨v1, H1, f1, o1, h1⟩
  exact h1 A env P s1 vals r i f1 o1 iss
theorem WA.tup {ts : List PySem.Expr} {n : Nat} {p : Pos} {a : Addr} {vs : List V} {Φ : List (Option V) → Hp → Prop} (hl : H a = some (.tup vs)) (h : WAs B k F ts vs vars H Φ)
    (hn : ∀ env, (assignEach ts env).length = vs.length := by intro; with_unfolding_all rfl) (hs : ∀ env, (assignEach ts env).findIdx? (·.1) = none := by intro; with_unfolding_all rfl) : WA B k F (.Tuple ts n p) (.ref a) vars H Φ := by
  intro A env P s val r i f o is
  cases is
  obtain ⟨us, m, ia, e⟩ := o.tup hl
  refine wpAny_assign_Tuple (items := us.toArray) r.1 ⟨_, e, rfl, m, rfl⟩ (by rw [hn]; simp [ia.length]) (hs env) fun h' hx => ?_
  have hk : ∀ b o', s.heap.get? b = some o' → h'.get? b = some o' := fun b o' e' => hx b o' (Nat.ne_of_lt (Heap.lt_size e')) e'
  have f' : Fm F env vars P H { s with heap := h' } := f.mono (fun o e => hk _ _ e) (fun _ => f.locH) fun _ => f.locP
  have := h A env P { s with heap := h' } us r i f' (o.grow hk s.toks) ia
  exact this
/-- a value's item set -/
def WSet (B : Base) (k : Nat) (a i v : V) (H : Hp) (Φ : Hp → Prop) : Prop :=
  ∀ A P s x y z, Room k A → B.In P → Ok P H s → Is a x → Is i y → Is v z → wpAny B.M A (setItem x y z) (fun _ s' => ∃ H', Ok P H' s' ∧ Φ H') (fun _ _ => False) s
theorem WA.sub {oe ie : PySem.Expr} {p : Pos} {v : V} {Φ : List (Option V) → Hp → Prop} (h : WE B k F oe vars H fun a H1 => WE B k F ie vars H1 fun i H2 => WSet B k a i v H2 (Φ vars)) :
    WA B k F (.Subscript oe ie p) v vars H Φ := by
  intro A env P s val r ib f o is
  rw [arm_assign_Subscript]
  refine wpAny_bind (wpAny_holding (wpAny_mono (h A env P s r ib f o) ?_ fun _ _ f => f.elim))
  rintro x s1 ⟨a, H1, ia, f1, o1, h1⟩
  refine wpAny_bind (wpAny_holding (wpAny_mono (h1 A env P s1 r ib f1 o1) ?_ fun _ _ f => f.elim))
  rintro y s2 ⟨i, H2, ii, f2, o2, h2⟩
  refine wpAny_bind (wpAny_standAt (wpAny_bind (wpAny_holding ?_)))
  obtain ⟨P', hP, _, _, o', back⟩ := f2.guard o2
  refine wpAny_mono (h2 A P' s2 x y val r (fun a o e => hP a o (ib a o e)) o' ia ii is) ?_ fun _ _ f => f.elim
  rintro _ s3 ⟨H3, o3, h3⟩
  intro Γ p hΓ
  rw [Sem.wp_release]
  exact ⟨_, _, (back _ _ o3).1, (back _ _ o3).2, h3⟩

/-! statements -/
theorem WSs.nil {Φ : Fl → List (Option V) → Hp → Prop} (h : Φ .next vars H) : WSs B k F [] vars H Φ := fun _ _ _ _ _ _ f o => wpAny_execs_nil ⟨_, _, _, .next, f, o, h⟩
/-- behind a statement -/
def thenDo (B : Base) (k : Nat) (F : FI) (rest : List Stmt) (Φ : Fl → List (Option V) → Hp → Prop) : Fl → List (Option V) → Hp → Prop
  | .next => fun vars H => WSs B k F rest vars H Φ
  | f => Φ f
theorem WSs.cons {st : Stmt} {rest : List Stmt} {Φ : Fl → List (Option V) → Hp → Prop} (h : WS B k F st vars H (thenDo B k F rest Φ)) : WSs B k F (st :: rest) vars H Φ := by
  intro A env P s r i f o
  refine wpAny_execs_cons (wpAny_mono (h A env P s r i f o) ?_ fun _ _ f => f.elim)
  rintro fl s1 ⟨g, v1, H1, ig, f1, o1, h1⟩
  cases ig with
  | next => exact h1 A env P s1 r i f1 o1
  | brk => exact ⟨_, _, _, .brk, f1, o1, h1⟩
  | cont => exact ⟨_, _, _, .cont, f1, o1, h1⟩
  | ret i => exact ⟨_, _, _, .ret i, f1, o1, h1⟩
theorem WSs.assign {x : Str} {p pos : Pos} {e : PySem.Expr} {rest : List Stmt} {Φ : Fl → List (Option V) → Hp → Prop} (h : WE B k F e vars H fun v H1 => WSt B k F x v vars H1 fun v1 H2 => WSs B k F rest v1 H2 Φ)
    (hs : ∀ env : Env, env.scope = F.sc → swapsWith e (some (.Name x p)) pos.line env = pure false := by intro _ _; with_unfolding_all rfl) : WSs B k F (.Assign [.Name x p] e pos :: rest) vars H Φ := by
  refine WSs.cons fun A env P s r i f o => ?_
  refine wpAny_Assign_Name (wpAny_mono (h A env P s r i f o) ?_ fun _ _ f => f.elim) (hs env f.sc)
  rintro val s1 ⟨v, H1, ia, f1, o1, h1⟩
  refine wpAny_mono (h1 A env P s1 val r i f1 o1 ia) ?_ fun _ _ f => f.elim
  rintro _ s2 ⟨v2, H2, f2, o2, h2⟩
  exact ⟨_, _, _, .next, f2, o2, h2⟩
/-- one target that is no name -/
theorem WSs.assignT {t : PySem.Expr} {pos : Pos} {e : PySem.Expr} {rest : List Stmt} {Φ : Fl → List (Option V) → Hp → Prop} (h : WE B k F e vars H fun v H1 => WA B k F t v vars H1 fun v1 H2 => WSs B k F rest v1 H2 Φ)
    (hs : ∀ env : Env, swapsWith e (some t) pos.line env = pure false := by intro _; with_unfolding_all rfl) (hw : ∀ env : Env, env.scope = F.sc → swappedStores [t] e env = pure none := by intro _ _; with_unfolding_all rfl)
    (ht : ∀ env, assignEach [t] env = [(false, PySem.assign t env)] := by intro; with_unfolding_all rfl) : WSs B k F (.Assign [t] e pos :: rest) vars H Φ := by
  refine WSs.cons fun A env P s r i f o => ?_
  rw [arm_exec_Assign]
  refine wpAny_bind (wpAny_standAt (wpAny_bind ?_))
  show wpAny _ _ (swapsWith e (some t) pos.line env) _ _ _
  rw [hs]
  refine wpAny_pure (wpAny_bind (wpAny_mono (h A env P s r i f o) ?_ fun _ _ f => f.elim))
  rintro val s1 ⟨v, H1, ia, f1, o1, h1⟩
  refine wpAny_bind ?_
  rw [hw env f.sc]
  refine wpAny_pure ?_
  show wpAny _ _ (do assignAll val ((assignEach [t] env).map (·.2)); pure Flow.next) _ _ _
  rw [ht]
  refine wpAny_bind (wpAny_mono (h1 A env P s1 val r i f1 o1 ia) ?_ fun _ _ f => f.elim)
  rintro _ s2 ⟨v2, H2, f2, o2, h2⟩
  exact wpAny_pure ⟨_, _, _, .next, f2, o2, h2⟩
theorem WSs.aug {x : Str} {op : Operator} {p pos : Pos} {e : PySem.Expr} {rest : List Stmt} {a : V} {Φ : Fl → List (Option V) → Hp → Prop} (ha : At F.names vars x a)
    (h : WE B k F e vars H fun b H2 => WInp B k op a b H2 fun v H3 => WSt B k F x v vars H3 fun v1 H4 => WSs B k F rest v1 H4 Φ) : WSs B k F (.AugAssign (.Name x p) op e pos :: rest) vars H Φ := by
  refine WSs.cons fun A env P s r i f o => ?_
  obtain ⟨j, hn, hv⟩ := ha.get
  obtain ⟨m, hm, hl⟩ := f.ns
  obtain ⟨val, ev, ia⟩ := hl j x a hn hv
  refine wpAny_AugAssign_Name (wpAny_loadName_local f.fn (f.isLoc hn) hm ev ?_)
  refine wpAny_mono (h A env P s r i f o) ?_ fun _ _ f => f.elim
  rintro x2 s2 ⟨b, H2, ib, f2, o2, h2⟩
  refine wpAny_mono (WO.fr h2 r i f2 o2 (.cons ia (.cons ib .nil))) ?_ fun _ _ f => f.elim
  rintro x3 s3 ⟨v, H3, iv, f3, o3, h3⟩
  refine wpAny_mono (h3 A env P s3 x3 r i f3 o3 iv) ?_ fun _ _ f => f.elim
  rintro _ s4 ⟨v4, H4, f4, o4, h4⟩
  exact ⟨_, _, _, .next, f4, o4, h4⟩
theorem WSs.ret {e : PySem.Expr} {pos : Pos} {rest : List Stmt} {Φ : Fl → List (Option V) → Hp → Prop} (h : WE B k F e vars H fun v H1 => Φ (.ret v) vars H1) : WSs B k F (.Return (some e) pos :: rest) vars H Φ := by
  refine WSs.cons fun A env P s r i f o => ?_
  refine wpAny_Return_some (wpAny_mono (h A env P s r i f o) ?_ fun _ _ f => f.elim)
  rintro val s1 ⟨v, H1, ia, f1, o1, h1⟩
  exact ⟨_, _, _, .ret ia, f1, o1, h1⟩
theorem WSs.ife {c : PySem.Expr} {b1 b2 rest : List Stmt} {pos : Pos} {Φ : Fl → List (Option V) → Hp → Prop}
    (h : WT B k F c vars H fun b H1 => (b = true → WSs B k F b1 vars H1 (thenDo B k F rest Φ)) ∧ (b = false → WSs B k F b2 vars H1 (thenDo B k F rest Φ))) : WSs B k F (.If c b1 b2 pos :: rest) vars H Φ := by
  refine WSs.cons fun A env P s r i f o => ?_
  refine wpAny_If (wpAny_mono (h A env P s r i f o) ?_ fun _ _ f => f.elim)
  rintro b s1 ⟨H1, f1, o1, h1⟩
  cases b with
  | true => exact h1.1 rfl A env P s1 r i f1 o1
  | false => exact h1.2 rfl A env P s1 r i f1 o1
theorem WSs.expr {e : PySem.Expr} {pos : Pos} {rest : List Stmt} {Φ : Fl → List (Option V) → Hp → Prop} (h : WE B k F e vars H fun v H1 => v = .none ∧ WSs B k F rest vars H1 Φ)
    (hs : ∀ env, swapsWith e none pos.line env = pure false := by intro; with_unfolding_all rfl) : WSs B k F (.Expr e pos :: rest) vars H Φ := by
  refine WSs.cons fun A env P s r i f o => ?_
  refine wpAny_Expr (wpAny_mono (h A env P s r i f o) ?_ fun _ _ f => f.elim) (by unfold interactive; rw [f.fn]; rfl) (hs env)
  rintro val s1 ⟨v, H1, ia, f1, o1, rfl, h1⟩
  cases ia
  exact ⟨_, _, _, .next, f1, o1, h1⟩
end
end Mine
end
noncomputable section
open PySem PySem.W PyProof.Rows
namespace Mine
/-! a def's frame -/
def celNames (names : List (Str × NameKind)) : List Str := (names.filter (·.2 == .cell)).map (·.1)
def putCells (H : Hp) : List Addr → Hp
  | [] => H
  | c :: cs => putCells (put H c (.cell none)) cs
theorem cells_laid {P : Pr} : ∀ (names : List (Str × NameKind)) (acc : List (Str × Addr)) (H : Hp) (s : Shared), Ok P H s →
    ∃ cs : List Addr, cs.length = (celNames names).length ∧ cellsFrom s.heap.objs.size names acc = ((celNames names).zip cs).reverse ++ acc ∧ Ok P (putCells H cs) { s with heap := pushCells s.heap names } ∧ cs.Nodup ∧ (∀ c ∈ cs, H c = none ∧ s.heap.objs.size ≤ c) ∧ (∀ a, (∀ c ∈ cs, a ≠ c) → putCells H cs a = H a)
  | [], acc, H, s, o => ⟨[], rfl, rfl, o, .nil, fun _ h => (nomatch h), fun _ _ => rfl⟩
  | (n, kd) :: r, acc, H, s, o => by
    unfold cellsFrom pushCells celNames
    by_cases h : (kd == NameKind.cell) = true
    · rw [if_pos h, if_pos h, List.filter_cons, if_pos h]
      have o1 := o.pushH (o := .cell none) .cell0 s.toks
      obtain ⟨cs, h1, h2, h3, h4, h5, h6⟩ := cells_laid r ((n, s.heap.objs.size) :: acc) _ _ o1
      have hz : ({ s with heap := s.heap.push { cls := .type "cell", data := .cell none } } : Shared).heap.objs.size = s.heap.objs.size + 1 := Heap.size_push ..
      rw [hz] at h2 h5
      refine ⟨s.heap.objs.size :: cs, by simp [h1, celNames], ?_, h3, List.nodup_cons.mpr ⟨fun hm => by have := (h5 _ hm).2; omega, h4⟩, fun c hc => ?_, fun a ha => ?_⟩
      · rw [h2]; simp [celNames]
      · rcases List.mem_cons.mp hc with rfl | hc
        · exact ⟨o.newH, Nat.le_refl _⟩
        · obtain ⟨a, b⟩ := h5 c hc
          have hne : c ≠ s.heap.objs.size := Nat.ne_of_gt b
          rw [put_ne _ _ hne] at a
          exact ⟨a, by omega⟩
      · show putCells (put H s.heap.objs.size (.cell none)) cs a = H a
        rw [h6 a fun c hc => ha c (List.mem_cons_of_mem _ hc), put_ne _ _ (ha _ List.mem_cons_self)]
    · rw [if_neg h, if_neg h, List.filter_cons, if_neg h]
      exact cells_laid r acc H s o
theorem lookup_nodup {β : Type} : ∀ {l : List (Str × β)}, (l.map (·.1)).Nodup → ∀ {x : Str} {c : β}, (x, c) ∈ l → l.lookup x = some c
  | (k, v) :: r, h, x, c, hm => by
    rw [List.map_cons, List.nodup_cons] at h
    rcases List.mem_cons.mp hm with e | hm
    · cases e; rw [List.lookup_cons, beq_self_eq_true]
    · rw [List.lookup_cons]
      have : (x == k) = false := by
        cases q : x == k with
        | false => rfl
        | true => exact absurd (List.mem_map.mpr ⟨_, hm, eq_of_beq q⟩) h.1
      rw [this]
      exact lookup_nodup h.2 hm
theorem lookup_rev {β : Type} {l acc : List (Str × β)} (h : (l.map (·.1)).Nodup) {x : Str} {c : β} (hm : (x, c) ∈ l) : (l.reverse ++ acc).lookup x = some c := by
  have h' : (l.reverse.map (·.1)).Nodup := by
    rw [List.map_reverse]
    exact List.pairwise_reverse.mpr (h.imp fun hab => Ne.symm hab)
  rw [List.lookup_append, lookup_nodup h' (List.mem_reverse.mpr hm)]; rfl
theorem zip_keys {α β : Type} : ∀ {l : List α} {m : List β}, m.length = l.length → (l.zip m).map (·.1) = l
  | [], _, _ => rfl
  | a :: l, b :: m, h => by simp [zip_keys (l := l) (m := m) (by simpa using h)]
theorem fresh_ns (s : Shared) (cls : Value) (names : List (Str × NameKind)) : (pushCells (s.heap.push { cls, data := .dict #[] }) names).Ns s.heap.objs.size fun _ => none :=
  (Heap.Ns.new s.heap cls).keeps (pushCells_keeps _ _)

/-- what an environment's making leaves -/
theorem env_new {M : Model} {A : Around} {E : Value → Shared → Prop} {P : Pr} {H : Hp} {s : Shared} {sc : Scope} {cl fcs : List (Str × Addr)} {names : List Str} {vs : List (Option V)} {binds : List (Str × Value)} {qual : Str} {func : Option Addr} {code : Value} {around : Option Env} {Q : Env → Shared → Prop} (fc : Option (Addr × Str)) (hfc : ∀ c q, fc = some (c, q) → around = none ∧ code = .ref c ∧ qual = q)
    (o : Ok P H s) (hk : sc.kind = .function) (hco : sc.isCoroutine = false) (nd : names.Nodup) (lo : locOk sc names = true) (hcel : celOk sc ((celNames sc.names) ++ fcs.map (·.1)) = true) (hcn : (celNames sc.names).Nodup) (hv : vs.all (·.isNone) = true)
    (hcl : ∀ x c, (x, c) ∈ fcs → cl.lookup x = some c) (hdis : ∀ x ∈ celNames sc.names, x ∉ fcs.map (·.1)) (hbl : ∀ e, around = some e → e.builtins = builtinsNs)
    (h : ∀ (cs : List Addr) (env : Env) s', cs.length = (celNames sc.names).length → cs.Nodup → (∀ c ∈ cs, H c = none) → (∀ a, (∀ c ∈ cs, a ≠ c) → putCells H cs a = H a) → env.scope = sc →
      (env.locals = s.heap.objs.size ∧ ∀ b o, s.heap.get? b = some o → s'.heap.get? b = some o) →
      Fm ⟨sc, names, (celNames sc.names).zip cs ++ fcs, fc⟩ env vs P (putCells H cs) s' → Ok P (putCells H cs) s' →
      wpAny M A (forIn binds PUnit.unit (fun p u => do storeName env p.1 p.2; pure (.yield u))) (fun _ s'' => Q env s'') E s') :
    wpAny M A (newFunctionEnv sc mainGlobals cl binds qual func code around builtinsNs) Q E s := by
  have main : ∀ (cls : Value) (mk : List (Str × Addr) → Env), (∀ c, (mk c).scope = sc ∧ (mk c).locals = s.heap.objs.size ∧ (mk c).globals = mainGlobals ∧ (mk c).builtins = builtinsNs ∧ (mk c).cells = c ∧ (∀ c' q, fc = some (c', q) → (mk c).code = .ref c' ∧ (mk c).qual = q)) →
      wpAny M A (do
        let mut cells := cl
        for (name, kind) in sc.names do
          if kind == .cell then cells := (name, ← alloc { cls := .type "cell", data := .cell none }) :: cells
        let env := mk cells
        for (name, v) in binds do storeName env name v
        return env) Q E { s with heap := s.heap.push { cls, data := .dict #[] } } := by
    intro cls mk hmk
    refine wpAny_bind (wpAny_layCells _ (fun name kind cells => by cases hkc : kind == NameKind.cell <;> simp [hkc]) _ _ _ _ ?_)
    have o1 := o.push { cls, data := .dict #[] } s.toks
    obtain ⟨cs, h1, h2, h3, h4, h5, h6⟩ := cells_laid sc.names cl _ _ o1
    have hz : ({ s with heap := s.heap.push { cls, data := .dict #[] } } : Shared).heap.objs.size = s.heap.objs.size + 1 := Heap.size_push ..
    rw [hz] at h5
    obtain ⟨e1, e2, e3, e4, e5, e6⟩ := hmk (cellsFrom ({ s with heap := s.heap.push { cls, data := .dict #[] } } : Shared).heap.objs.size sc.names cl)
    have hcs : ∀ c ∈ cs, s.heap.objs.size ≠ c := fun c hc => by have := (h5 c hc).2; omega
    have fm : Fm ⟨sc, names, (celNames sc.names).zip cs ++ fcs, fc⟩ (mk (cellsFrom ({ s with heap := s.heap.push { cls, data := .dict #[] } } : Shared).heap.objs.size sc.names cl)) vs P (putCells H cs)
        { s with heap := pushCells (s.heap.push { cls, data := .dict #[] }) sc.names } := by
      refine ⟨e1, hk, e3, e4, nd, lo, ?_, ?_, ?_, ⟨fun _ => none, ?_, fun i x v hx hw => ?_⟩, fun x c hm => ?_, by rw [e1]; exact hco, e6⟩
      · rw [List.map_append, zip_keys h1]; exact hcel
      · rw [e2]; exact o.newP
      · rw [e2, h6 _ hcs]; exact o.newH
      · rw [e2]; exact fresh_ns s cls sc.names
      · have := List.all_eq_true.mp hv _ (List.mem_of_getElem? hw); cases this
      · rw [e5, h2]
        rcases List.mem_append.mp hm with hm | hm
        · exact lookup_rev (by rw [zip_keys h1]; exact hcn) hm
        · have hno : (((celNames sc.names).zip cs).reverse).lookup x = none := by
            rw [List.lookup_eq_none_iff]
            intro p hp
            have hp' := List.mem_reverse.mp hp
            have hx : p.1 ∈ celNames sc.names := by rw [← zip_keys h1]; exact List.mem_map.mpr ⟨_, hp', rfl⟩
            exact bne_iff_ne.mpr fun e => absurd (List.mem_map.mpr ⟨_, hm, e⟩) (hdis _ hx)
          rw [List.lookup_append, hno]
          exact hcl x c hm
    have := h cs _ _ h1 h4 (fun c hc => (h5 c hc).1) h6 e1 ⟨e2, fun b o' e => pushCells_keeps _ _ b o' (Heap.get?_push_of_some _ e)⟩ fm h3
    refine wpAny_bind (wpAny_mono this (fun _ s'' q => wpAny_pure q) fun _ _ e => e)
  cases around with
  | none =>
    simp only [newFunctionEnv, Option.isSome_none, Bool.false_eq_true, if_false]
    refine wpAny_bind (wpAny_alloc ?_)
    exact main (.type "frame") (fun cells => { scope := sc, locals := s.heap.objs.size, globals := mainGlobals, cells, qual, func, code, frame := some s.heap.objs.size, builtins := builtinsNs }) fun c => ⟨rfl, rfl, rfl, rfl, rfl, fun c' q e => (hfc c' q e).2⟩
  | some outer =>
    simp only [newFunctionEnv, Option.isSome_some, if_true]
    refine wpAny_bind (wpAny_alloc ?_)
    exact main (.type "dict") (fun cells => { scope := sc, locals := s.heap.objs.size, globals := mainGlobals, cells, qual, func, code := outer.code, frame := outer.frame, builtins := outer.builtins }) fun c => ⟨rfl, rfl, rfl, hbl outer rfl, rfl, fun c' q e => nomatch (hfc c' q e).1⟩

/-! the parameters -/
inductive BAre : List (Str × V) → List (Str × Value) → Prop where
  | nil : BAre [] []
  | cons {x : Str} {v : V} {val : Value} {bs : List (Str × V)} {vs : List (Str × Value)} : Is v val → BAre bs vs → BAre ((x, v) :: bs) ((x, val) :: vs)
def WBs (B : Base) (k : Nat) (F : FI) : List (Str × V) → List (Option V) → Hp → (List (Option V) → Hp → Prop) → Prop
  | [], vars, H, Φ => Φ vars H
  | (x, v) :: r, vars, H, Φ => WSt B k F x v vars H fun vars1 H1 => WBs B k F r vars1 H1 Φ
theorem WBs.run {B : Base} {k : Nat} {F : FI} {A : Around} {env : Env} {P : Pr} (r : Room k A) (ib : B.In P) : ∀ {bs : List (Str × V)} {vs : List (Str × Value)} {vars : List (Option V)} {H : Hp} {s : Shared} {Φ : List (Option V) → Hp → Prop},
    BAre bs vs → Fm F env vars P H s → Ok P H s → WBs B k F bs vars H Φ →
    wpAny B.M A (forIn vs PUnit.unit (fun p u => do storeName env p.1 p.2; pure (.yield u))) (fun _ s' => ∃ vars' H', Fm F env vars' P H' s' ∧ Ok P H' s' ∧ Φ vars' H') (fun _ _ => False) s
  | _, _, vars, H, s, Φ, .nil, f, o, h => by rw [List.forIn_nil]; exact wpAny_pure ⟨_, _, f, o, h⟩
  | _, _, vars, H, s, Φ, .cons (vs := vs) i is, f, o, h => by
    rw [List.forIn_cons]
    refine wpAny_bind (wpAny_bind (wpAny_mono (h A env P s _ r ib f o i) ?_ fun _ _ f => f.elim))
    rintro _ s1 ⟨v1, H1, f1, o1, h1⟩
    exact wpAny_pure (WBs.run r ib is f1 o1 h1)

/-- a def of the base -/
def DefAt (B : Base) (a : Addr) (ps : Arguments) (body : List Stmt) (sc : Scope) (dv kdv : Value) (gen : Bool := false) : Prop :=
  ∃ ob fd, B.obj a = some ob ∧ ob.data = .func fd ∧ fd.params = ps ∧ fd.body = .stmts body ∧ fd.scope = sc ∧ fd.globals = mainGlobals ∧ fd.closure = [] ∧ fd.defaults = dv ∧ fd.kwdefaults = kdv ∧ fd.builtins = builtinsNs ∧ sc.isGenerator = gen ∧ sc.isCoroutine = false ∧ sc.kind = .function ∧
    ∃ c o vs t, fd.code = .ref c ∧ B.obj c = some o ∧ o.data = .fields vs ∧ vs[1]? = some (.str fd.qualname t)
theorem DefAt.callee {B : Base} {a : Addr} {ps : Arguments} {body : List Stmt} {sc : Scope} {dv kdv : Value} {g : Bool} (D : DefAt B a ps body sc dv kdv g) (H : Hp) : Callee B H (.val (.ref a)) := by
  obtain ⟨ob, fd, h, d, _⟩ := D
  exact .fn h d
/-- the looks at a def's table -/
structure Looks (sc : Scope) (names : List Str) (vs : List (Option V)) : Prop where
  nd : names.Nodup
  lo : locOk sc names = true
  cel : celOk sc (celNames sc.names) = true
  cn : (celNames sc.names).Nodup
  vs : vs.all (·.isNone) = true
/-- how the arguments go to the names -/
def Binding (B : Base) (ps : Arguments) (dv kdv : Value) (kw : List Str) (args : List V) (bs : List (Str × V)) : Prop :=
  ∀ (fd : FuncData) (P : Pr) (H : Hp) (s : Shared) (kvals vals : List Value), fd.params = ps → fd.defaults = dv → fd.kwdefaults = kdv → B.In P → Ok P H s → Are args (kvals ++ vals) → kvals.length = kw.length →
    ∃ binds, BindsTo s fd ⟨vals, kw.zip kvals⟩ binds ∧ BAre bs binds
/-- the code that a def's frames bear -/
def DefC (B : Base) (a : Addr) (c : Addr) (q : Str) : Prop := ∃ ob fd, B.obj a = some ob ∧ ob.data = .func fd ∧ fd.code = .ref c ∧ fd.qualname ++ ".<locals>." = q
theorem call_def {B : Base} {k : Nat} {H : Hp} {a : Addr} {ps : Arguments} {body : List Stmt} {sc : Scope} {dv kdv : Value} {names : List Str} {vs0 : List (Option V)} {kw : List Str} {args : List V} {bs : List (Str × V)} {Φ : V → Hp → Prop} (fc : Option (Addr × Str)) (hfc : ∀ c q, fc = some (c, q) → DefC B a c q)
    (D : DefAt B a ps body sc dv kdv) (L : Looks sc names vs0) (hb : Binding B ps dv kdv kw args bs)
    (h : ∀ cs : List Addr, cs.length = (celNames sc.names).length → cs.Nodup → (∀ c ∈ cs, H c = none) → (∀ a, (∀ c ∈ cs, a ≠ c) → putCells H cs a = H a) →
      WBs B k ⟨sc, names, (celNames sc.names).zip cs ++ [], fc⟩ bs vs0 (putCells H cs) fun vars H1 => WSs B k ⟨sc, names, (celNames sc.names).zip cs ++ [], fc⟩ body vars H1 fun f _ H2 => match f with | .ret v => Φ v H2 | _ => Φ .none H2)
    {A : Around} {P : Pr} {s : Shared} {kvals vals : List Value} (r : Room (k + 1) A) (ib : B.In P) (o : Ok P H s) (ar : Are args (kvals ++ vals)) (hkl : kvals.length = kw.length) :
    wpAny B.M A (call (.ref a) vals (kw.zip kvals)) (fun val s' => ∃ v H', Is v val ∧ Ok P H' s' ∧ Φ v H') (fun _ _ => False) s := by
  obtain ⟨ob, fd, hob, hd, rfl, hbody, rfl, hg, hcl, rfl, rfl, hbl, hgen, hco, hk, c, oc, cvs, ct, hcd, hoc, hcf, hcq⟩ := D
  obtain ⟨binds, hbi, hba⟩ := hb fd P H s kvals vals rfl rfl rfl ib o ar hkl
  have hh := ib.heap o
  refine wpAny_call (codeAny_call_function r.depth (hh _ _ hob) hd hco hgen hbody ⟨c, oc, cvs, ct, hcd, hh _ _ hoc, hcf, hcq⟩ (hbi _ _ _ _ ?_))
  rw [hg, hcl, hbl]
  refine env_new (fcs := []) fc (fun c' q' e => ?_) o hk hco L.nd L.lo (by simpa using L.cel) L.cn L.vs (fun _ _ hm => nomatch hm) (fun _ _ hm => nomatch hm) (fun _ e => nomatch e) fun cs env s1 h1 h2 h3 h6 hsc _ f1 o1 => ?_
  · obtain ⟨ob', fd', g1, g2, g3, g4⟩ := hfc c' q' e
    rw [hob] at g1; cases g1; rw [hd] at g2; cases g2; exact ⟨rfl, g3, g4⟩
  refine noE (WBs.run (k := k) (A := A.in1) r.in1 ib hba f1 o1 (h cs h1 h2 h3 h6)) ?_
  rintro _ s2 ⟨vars, H1, f2, o2, h2'⟩
  refine ⟨B.limit _ (ib.heap o2), codeAny_func ?_⟩
  refine noE (h2' (A.deeper env) env P s2 (r.deeper env) ib f2 o2) ?_
  rintro fl s3 ⟨f, v3, H3, ifl, f3, o3, h3'⟩
  cases ifl with
  | next => exact ⟨_, _, .none, o3, h3'⟩
  | brk => exact ⟨_, _, .none, o3, h3'⟩
  | cont => exact ⟨_, _, .none, o3, h3'⟩
  | ret i => exact ⟨_, _, i, o3, h3'⟩
theorem WC.defX {B : Base} {k : Nat} {H : Hp} {a : Addr} {ps : Arguments} {body : List Stmt} {sc : Scope} {dv kdv : Value} {names : List Str} {vs0 : List (Option V)} {args : List V} {bs : List (Str × V)} {Φ : V → Hp → Prop} (fc : Option (Addr × Str)) (hfc : ∀ c q, fc = some (c, q) → DefC B a c q)
    (D : DefAt B a ps body sc dv kdv) (L : Looks sc names vs0) (hb : Binding B ps dv kdv [] args bs)
    (h : ∀ cs : List Addr, cs.length = (celNames sc.names).length → cs.Nodup → (∀ c ∈ cs, H c = none) → (∀ a, (∀ c ∈ cs, a ≠ c) → putCells H cs a = H a) →
      WBs B k ⟨sc, names, (celNames sc.names).zip cs ++ [], fc⟩ bs vs0 (putCells H cs) fun vars H1 => WSs B k ⟨sc, names, (celNames sc.names).zip cs ++ [], fc⟩ body vars H1 fun f _ H2 => match f with | .ret v => Φ v H2 | _ => Φ .none H2) :
    WC B (k + 1) (.ref a) args H Φ := fun _ _ _ _ r ib o ar => call_def fc hfc (kvals := []) D L hb h r ib o ar rfl
theorem WC.def {B : Base} {k : Nat} {H : Hp} {a : Addr} {ps : Arguments} {body : List Stmt} {sc : Scope} {dv kdv : Value} {names : List Str} {vs0 : List (Option V)} {args : List V} {bs : List (Str × V)} {Φ : V → Hp → Prop}
    (D : DefAt B a ps body sc dv kdv) (L : Looks sc names vs0) (hb : Binding B ps dv kdv [] args bs)
    (h : ∀ cs : List Addr, cs.length = (celNames sc.names).length → cs.Nodup → (∀ c ∈ cs, H c = none) → (∀ a, (∀ c ∈ cs, a ≠ c) → putCells H cs a = H a) →
      WBs B k ⟨sc, names, (celNames sc.names).zip cs ++ [], none⟩ bs vs0 (putCells H cs) fun vars H1 => WSs B k ⟨sc, names, (celNames sc.names).zip cs ++ [], none⟩ body vars H1 fun f _ H2 => match f with | .ret v => Φ v H2 | _ => Φ .none H2) :
    WC B (k + 1) (.ref a) args H Φ := fun _ _ _ _ r ib o ar => call_def none (fun _ _ e => nomatch e) (kvals := []) D L hb h r ib o ar rfl
end Mine
end
noncomputable section
open PySem PySem.W PyProof.Rows
namespace Mine
/-! what an iterator holds of its own -/
structure Foot where
  obj : Addr → Option Obj
  gen : Nat → Option GenState
def Pr.with (P : Pr) (f : Foot) : Pr := { obj := fun a => (f.obj a).or (P.obj a), gen := fun i => (f.gen i).or (P.gen i), os := P.os }
/-- apart from what is kept -/
structure Dis (P : Pr) (f : Foot) : Prop where
  obj : ∀ a o, f.obj a = some o → P.obj a = none
  gen : ∀ i g, f.gen i = some g → P.gen i = none
theorem Pr.with_of {P : Pr} {f : Foot} (d : Dis P f) {a : Addr} {o : Obj} (h : P.obj a = some o) : (P.with f).obj a = some o := by
  show (f.obj a).or (P.obj a) = some o
  cases q : f.obj a with
  | none => exact h
  | some x => rw [d.obj a x q] at h; cases h
theorem Pr.with_gen {P : Pr} {f : Foot} (d : Dis P f) {i : Nat} {g : GenState} (h : P.gen i = some g) : (P.with f).gen i = some g := by
  show (f.gen i).or (P.gen i) = some g
  cases q : f.gen i with
  | none => exact h
  | some x => rw [d.gen i x q] at h; cases h
theorem Ok.drop {P : Pr} {f : Foot} {H : Hp} {s : Shared} (d : Dis P f) (o : Ok (P.with f) H s) : Ok P H s := o.weak (fun _ _ h => Pr.with_of d h) (fun _ _ h => h) (fun _ _ h => Pr.with_gen d h) rfl
theorem Base.In.with {B : Base} {P : Pr} {f : Foot} (h : B.In P) (d : Dis P f) : B.In (P.with f) := fun a o e => Pr.with_of d (h a o e)
theorem Ok.foot {P : Pr} {f : Foot} {H : Hp} {s : Shared} (o : Ok (P.with f) H s) {a : Addr} {ob : Obj} (h : f.obj a = some ob) : s.heap.get? a = some ob := o.prot a ob (by show (f.obj a).or _ = _; rw [h]; rfl)
theorem Ok.footH {P : Pr} {f : Foot} {H : Hp} {s : Shared} (o : Ok (P.with f) H s) {a : Addr} {ob : Obj} (h : f.obj a = some ob) : H a = none := o.dis a ob (by show (f.obj a).or _ = _; rw [h]; rfl)
def Foot.one (a : Addr) (o : Obj) : Foot := { obj := fun b => if b = a then some o else none, gen := fun _ => none }
theorem Foot.one_self (a : Addr) (o : Obj) : (Foot.one a o).obj a = some o := if_pos rfl
theorem Foot.one_eq {a b : Addr} {o x : Obj} (h : (Foot.one a o).obj b = some x) : b = a ∧ x = o := by
  have h' : (if b = a then some o else none) = some x := h
  split at h'
  · exact ⟨‹_›, (Option.some.inj h').symm⟩
  · cases h'
theorem Ok.pushF {P : Pr} {H : Hp} {s : Shared} (K : Ok P H s) {ob : Obj} (hf : ob.isFreed = false) : Dis P (Foot.one s.heap.objs.size ob) ∧ Ok (P.with (Foot.one s.heap.objs.size ob)) H { s with heap := s.heap.push ob } := by
  refine ⟨⟨fun a x h => ?_, fun _ _ h => nomatch h⟩, ?_⟩
  · obtain ⟨rfl, _⟩ := Foot.one_eq h; exact K.newP
  · refine (K.pushP hf s.toks).weak (fun a x h => ?_) (fun _ _ h => h) (fun _ _ h => h) rfl
    have h' : ((Foot.one s.heap.objs.size ob).obj a).or (P.obj a) = some x := h
    show (if a = s.heap.objs.size then some ob else P.obj a) = some x
    by_cases e : a = s.heap.objs.size
    · rw [if_pos e]; subst e; rw [Foot.one_self] at h'; exact h'
    · rw [if_neg e]
      have : (Foot.one s.heap.objs.size ob).obj a = none := if_neg e
      rw [this] at h'; exact h'
/-- an iterator's object turned -/
theorem Ok.updF {P : Pr} {H : Hp} {s : Shared} {a : Addr} {ob ob' : Obj} (d : Dis P (Foot.one a ob)) (K : Ok (P.with (Foot.one a ob)) H s) {h' : Heap} (hs : Heap.SameBut a s.heap h') (e : h'.get? a = some ob') (t : Nat) :
    Dis P (Foot.one a ob') ∧ Ok (P.with (Foot.one a ob')) H { s with heap := h', toks := t } := by
  have ha : (P.with (Foot.one a ob)).obj a = some ob := by show ((Foot.one a ob).obj a).or _ = _; rw [Foot.one_self]; rfl
  refine ⟨⟨fun b x h => ?_, fun _ _ h => nomatch h⟩, ?_⟩
  · obtain ⟨rfl, _⟩ := Foot.one_eq h; exact d.obj _ _ (Foot.one_self _ ob)
  · refine (K.updP ha hs e t).weak (fun b x h => ?_) (fun _ _ h => h) (fun _ _ h => h) rfl
    have h' : ((Foot.one a ob').obj b).or (P.obj b) = some x := h
    show (if b = a then some ob' else ((Foot.one a ob).obj b).or (P.obj b)) = some x
    by_cases q : b = a
    · rw [if_pos q]; subst q; rw [Foot.one_self] at h'; exact h'
    · rw [if_neg q]
      have z : ∀ o, (Foot.one a o).obj b = none := fun o => if_neg q
      rw [z] at h' ⊢; exact h'
/-- an iterator's object gone -/
theorem Ok.endF {P : Pr} {H : Hp} {s : Shared} {a : Addr} {ob : Obj} (d : Dis P (Foot.one a ob)) (K : Ok (P.with (Foot.one a ob)) H s) {h' : Heap} (hs : Heap.ExtBut a s.heap h') (t : Nat) : Ok P H { s with heap := h', toks := t } := by
  have ne : ∀ b o, P.obj b = some o → b ≠ a := by rintro b o h rfl; rw [d.obj _ _ (Foot.one_self _ ob)] at h; cases h
  have hH : H a = none := K.footH (Foot.one_self _ ob)
  have neH : ∀ b o, H b = some o → b ≠ a := by rintro b o h rfl; rw [hH] at h; cases h
  have K' := K.drop d
  exact ⟨fun b o h => hs b o (ne b o h) (K'.prot b o h), fun b o h => let ⟨x, e, i⟩ := K'.objs b o h; ⟨x, hs b x (neH b o h) e, i⟩, K'.dis, K'.gens, K'.bare, K'.os⟩

/-- how an iterator steps -/
structure Iter (B : Base) (k : Nat) (A : Around) (it : Value) (n : Nat) (J : Nat → Foot → Prop) (Req : Hp → Prop) (Item : Nat → Hp → V → Hp → Prop) : Prop where
  next : ∀ (i : Nat) (f : Foot) (P : Pr) (H : Hp) (s : Shared), i < n → J i f → B.In P → Dis P f → Room k A → Ok (P.with f) H s → Req H →
    wpAny B.M A (pyNext it) (fun r s' => ∃ val v f' H', r = some val ∧ Is v val ∧ J (i + 1) f' ∧ Dis P f' ∧ Ok (P.with f') H' s' ∧ Item i H v H') (fun _ _ => False) s
  done : ∀ (f : Foot) (P : Pr) (H : Hp) (s : Shared), J n f → B.In P → Dis P f → Room k A → Ok (P.with f) H s → Req H →
    wpAny B.M A (pyNext it) (fun r s' => r = none ∧ Ok P H s') (fun _ _ => False) s
  quiet : ∀ (i : Nat) (f : Foot) (P : Pr) (H : Hp) (s : Shared) (t : PySem.Expr) (v : Value), J i f → Ok (P.with f) H s → wpAny B.M A (letOwnedTupleGo t it v) (fun _ s' => s' = s) (fun _ _ => False) s

theorem Fm.guardF {F : FI} {env : Env} {vars : List (Option V)} {P : Pr} {f : Foot} {H : Hp} {s : Shared} (K : Fm F env vars P H s) (O : Ok (P.with f) H s) (d : Dis P f) (hl : f.obj env.locals = none) :
    ∃ P' : Pr, (∀ a o, P.obj a = some o → P'.obj a = some o) ∧ Dis P' f ∧ Ok (P'.with f) H s ∧ ∀ H' s' f', Dis P' f' → Ok (P'.with f') H' s' → Fm F env vars P H' s' ∧ Dis P f' ∧ Ok (P.with f') H' s' ∧ f'.obj env.locals = none := by
  classical
  let P' : Pr := { P with obj := fun b => if H b = none ∧ f.obj b = none then s.heap.get? b else none }
  have hP : ∀ a o, P.obj a = some o → P'.obj a = some o := fun a o h => by
    show (if H a = none ∧ f.obj a = none then s.heap.get? a else none) = some o
    have hf : f.obj a = none := by
      cases q : f.obj a with
      | none => rfl
      | some x => rw [d.obj a x q] at h; cases h
    rw [if_pos ⟨O.dis a o (Pr.with_of d h), hf⟩]; exact O.prot a o (Pr.with_of d h)
  have d' : Dis P' f := ⟨fun a o h => by
    show (if H a = none ∧ f.obj a = none then s.heap.get? a else none) = none
    rw [if_neg (fun x => by rw [h] at x; cases x.2)], d.gen⟩
  have split : ∀ a o, (P'.with f).obj a = some o → s.heap.get? a = some o ∧ H a = none := fun a o h => by
    have h' : (f.obj a).or (if H a = none ∧ f.obj a = none then s.heap.get? a else none) = some o := h
    cases q : f.obj a with
    | some x => rw [q] at h'; cases h'; exact ⟨O.foot q, O.footH q⟩
    | none =>
      rw [q, Option.none_or] at h'
      split at h'
      · exact ⟨h', (‹H a = none ∧ _›).1⟩
      · cases h'
  refine ⟨P', hP, d', ⟨fun a o h => (split a o h).1, O.objs, fun a o h => (split a o h).2, O.gens, O.bare, O.os⟩, fun H' s' f' df O' => ?_⟩
  obtain ⟨m, ⟨ol, _, _, ho, _⟩, _⟩ := K.ns
  have q : P'.obj env.locals = some ol := by
    show (if H env.locals = none ∧ f.obj env.locals = none then s.heap.get? env.locals else none) = some ol
    rw [if_pos ⟨K.locH, hl⟩]; exact ho
  have hl' : f'.obj env.locals = none := by
    cases z : f'.obj env.locals with
    | none => rfl
    | some x => rw [df.obj _ x z] at q; cases q
  have df' : Dis P f' := ⟨fun a o h => by
    cases z : P.obj a with
    | none => rfl
    | some x => (have := df.obj a o h; rw [hP a x z] at this; cases this), df.gen⟩
  have w : ∀ a o, (P.with f').obj a = some o → (P'.with f').obj a = some o := fun a o h => by
    have h' : (f'.obj a).or (P.obj a) = some o := h
    show (f'.obj a).or (P'.obj a) = some o
    cases z : f'.obj a with
    | some x => rw [z] at h'; exact h'
    | none => rw [z, Option.none_or] at h'; rw [Option.none_or]; exact hP a o h'
  have wl : (P'.with f').obj env.locals = some ol := Pr.with_of df q
  refine ⟨K.mono (fun o e => ?_) (fun _ => O'.dis _ _ wl) (fun _ => K.locP), df', O'.weak w (fun _ _ h => h) (fun _ _ h => h) rfl, hl'⟩
  rw [ho] at e; cases e
  exact O'.prot _ _ wl

theorem codeAny_for {prog : Program} {w : World} {A : Around} {R : Result → Shared → Prop} {target : PySem.Expr} {it : Value} {body : List Stmt} {env : Env} (I : Nat → Shared → Prop)
    (turn : ∀ n s, I n s → wpAny (model prog w) A (pyNext it) (fun r s₁ => match r with
      | none => R (.ok .next) s₁
      | some v => wpAny (model prog w) A (letOwnedTupleGo target it v) (fun _ s₁ => wpAny (model prog w) A (PySem.assign target env v) (fun _ s₂ => wpAny (model prog w) A (execs body env) (fun f s₃ => match f with
          | .next | .cont => ∃ m, m < n ∧ I m s₃
          | .brk => R (.ok .next) s₃
          | .ret v => R (.ok (.ret v)) s₃) (fun _ _ => False) s₂) (fun _ _ => False) s₁) (fun _ _ => False) s₁) (fun _ _ => False) s)
    (n : Nat) (s : Shared) (h : I n s) : codeAny (model prog w) A (.forLoop target it body [] env) R s := by
  refine codeAny_loop' rfl I (fun n s hI => ?_) n h
  show wpAny _ _ ((forTurn target it body [] env).onRaise (fun x => do noteFrame x env; theTreesLotGoes x)) _ _ s
  refine wpAny_noted ?_
  simp only [forTurn]
  refine wpAny_bind (wpAny_standAt (wpAny_bind (wpAny_onRaise (wpAny_mono (turn n s hI) (fun r s₁ h₁ => ?_) fun _ _ h' => h'.elim))))
  cases r with
  | none => exact wpAny_pure (.inr ⟨rfl, codeAny_block (wpAny_execs_nil h₁)⟩)
  | some v =>
    refine wpAny_bind (noE h₁ (fun _ s₁ h₁ => ?_))
    refine wpAny_bind (noE h₁ (fun _ s₂ h₂ => wpAny_bind (noE h₂ (fun f s₃ h₃ => ?_))))
    cases f with
    | next => exact wpAny_pure (.inl ⟨rfl, h₃⟩)
    | cont => exact wpAny_pure (.inl ⟨rfl, h₃⟩)
    | brk => exact wpAny_pure h₃
    | ret v => exact wpAny_pure h₃

/-- a turn's end -/
def turnEnd (Inv : List (Option V) → Hp → Prop) (Ψ : Fl → List (Option V) → Hp → Prop) : Fl → List (Option V) → Hp → Prop
  | .next => Inv
  | .cont => Inv
  | .brk => Ψ .next
  | .ret v => Ψ (.ret v)

theorem for_core {B : Base} {k : Nat} {F : FI} {it : Value} {n : Nat} {J : Nat → Foot → Prop} {Req : Hp → Prop} {Item : Nat → Hp → V → Hp → Prop} {A : Around} (I : Iter B k A it n J Req Item) {target : PySem.Expr} {body : List Stmt}
    {Ψ : Fl → List (Option V) → Hp → Prop} (Inv : Nat → List (Option V) → Hp → Prop) (req : ∀ i v H, Inv i v H → Req H)
    (turn : ∀ i vars H v H1, i < n → Inv i vars H → Item i H v H1 → WA B k F target v vars H1 fun v2 H2 => WSs B k F body v2 H2 (turnEnd (Inv (i + 1)) Ψ))
    (fin : ∀ vars H, Inv n vars H → Ψ .next vars H)
    {env : Env} {P : Pr} {f : Foot} {vars : List (Option V)} {H : Hp} {s : Shared} (r : Room k A) (ib : B.In P) (fm : Fm F env vars P H s) (o : Ok (P.with f) H s) (d : Dis P f) (hl : f.obj env.locals = none) (j : J 0 f) (h : Inv 0 vars H) :
    codeAny B.M A (.forLoop target it body [] env) (fun r s' => match r with | .ok fl => ∃ g v' H', FlIs g fl ∧ Fm F env v' P H' s' ∧ Ok P H' s' ∧ Ψ g v' H' | .error _ => False) s := by
  refine codeAny_for (fun m s => ∃ i f vars H, i ≤ n ∧ m = n - i ∧ Fm F env vars P H s ∧ Ok (P.with f) H s ∧ Dis P f ∧ f.obj env.locals = none ∧ J i f ∧ Inv i vars H) ?_ (n - 0) s ⟨0, f, vars, H, Nat.zero_le _, rfl, fm, o, d, hl, j, h⟩
  rintro m s ⟨i, f, vars, H, hi, rfl, fm, o, d, hl, j, h⟩
  obtain ⟨P', hP, d', o', back⟩ := fm.guardF o d hl
  have ib' : B.In P' := fun a x e => hP a x (ib a x e)
  by_cases hlt : i < n
  · refine wpAny_mono (I.next i f P' H s hlt j ib' d' r o' (req _ _ _ h)) ?_ fun _ _ e => e
    rintro _ s1 ⟨val, v, f1, H1, rfl, iv, j1, d1, o1, it1⟩
    obtain ⟨fm2, d2, o2, hl2⟩ := back _ _ _ d1 o1
    refine wpAny_mono (I.quiet (i + 1) f1 P H1 s1 target val j1 o2) ?_ fun _ _ e => e
    rintro _ _ rfl
    have fmw : ∀ {F : FI} {vars H s}, Fm F env vars P H s → Fm F env vars (P.with f1) H s := fun K => K.mono (fun _ e => e) (fun _ => K.locH) fun _ => by
      show (f1.obj env.locals).or (P.obj env.locals) = none
      rw [hl2]; exact K.locP
    have fmb : ∀ {F : FI} {vars H s}, Fm F env vars (P.with f1) H s → Fm F env vars P H s := fun K => K.mono (fun _ e => e) (fun _ => K.locH) fun _ => by
      have := K.locP
      have : (f1.obj env.locals).or (P.obj env.locals) = none := this
      rw [hl2] at this; exact this
    refine wpAny_mono (turn i vars H v H1 hlt h it1 A env (P.with f1) _ val r (ib.with d2) (fmw fm2) o2 iv) ?_ fun _ _ e => e
    rintro _ s2 ⟨v2, H2, fm3, o3, h3⟩
    refine wpAny_mono (h3 A env (P.with f1) s2 r (ib.with d2) fm3 o3) ?_ fun _ _ e => e
    rintro fl s3 ⟨g, v4, H4, ifl, fm4, o4, h4⟩
    cases ifl with
    | next => exact ⟨n - (i + 1), by omega, i + 1, f1, v4, H4, hlt, rfl, fmb fm4, o4, d2, hl2, j1, h4⟩
    | cont => exact ⟨n - (i + 1), by omega, i + 1, f1, v4, H4, hlt, rfl, fmb fm4, o4, d2, hl2, j1, h4⟩
    | brk => exact ⟨_, _, _, .next, fmb fm4, o4.drop d2, h4⟩
    | ret iv => exact ⟨_, _, _, .ret iv, fmb fm4, o4.drop d2, h4⟩
  · have e : i = n := by omega
    subst e
    refine wpAny_mono (I.done f P' H s j ib' d' r o' (req _ _ _ h)) ?_ fun _ _ e => e
    rintro _ s1 ⟨rfl, o1⟩
    have z : P'.with ⟨fun _ => none, fun _ => none⟩ = P' := by unfold Pr.with; simp
    obtain ⟨fm2, _, o2, _⟩ := back H s1 ⟨fun _ => none, fun _ => none⟩ ⟨fun _ _ h => (nomatch h), fun _ _ h => (nomatch h)⟩ (by rw [z]; exact o1)
    have z2 : P.with ⟨fun _ => none, fun _ => none⟩ = P := by unfold Pr.with; simp
    rw [z2] at o2
    exact ⟨_, _, _, .next, fm2, o2, fin _ _ h⟩
end Mine
end
noncomputable section
open PySem PySem.W PyProof.Rows
namespace Mine
theorem quiet_of {M : Model} {A : Around} {E : Value → Shared → Prop} {s : Shared} {r : Addr} {ob : Obj} {T : String} (h : s.heap.get? r = some ob) (hc : ob.cls = .type T)
    (hT : (["enumerate", "zip", "dict_itemiterator", "dict_reverseitemiterator", "odict_iterator", "itertools.zip_longest", "itertools.pairwise"].contains T) = false) (t : PySem.Expr) (v : Value) :
    wpAny M A (letOwnedTupleGo t (.ref r) v) (fun _ s' => s' = s) E s := by
  have key : wpAny M A (do
      let (.ref r, .ref a) := (Value.ref r, v) | return
      let o ← load r
      match o.cls, o.data with
      | .type n, .fields vs =>
        if ["enumerate", "zip", "dict_itemiterator", "dict_reverseitemiterator", "odict_iterator", "itertools.zip_longest", "itertools.pairwise"].contains n && vs[0]? == some (rawInt a) then
          rule "for.unpacks-the-owned-tuple"
          updateField r 0 .none
      | _, _ => pure () : Sem Unit) (fun _ s' => s' = s) E s := by
    cases v with
    | ref a =>
      refine wpAny_bind (wpAny_load h ?_)
      rw [hc]
      cases ob.data with
      | fields vs =>
        dsimp only
        rw [hT]
        exact wpAny_pure rfl
      | _ => exact wpAny_pure rfl
    | _ => exact wpAny_pure rfl
  unfold letOwnedTupleGo
  split
  · exact key
  · exact key
  · exact wpAny_pure rfl

/-! a list's iterator -/
def liJ (it l : Addr) (i : Nat) (f : Foot) : Prop := ∃ o : Obj, o.cls = .type "list_iterator" ∧ o.data = .fields #[.ref l, .int i 0] ∧ f = Foot.one it o
theorem iter_list {B : Base} {k : Nat} {A : Around} {it l : Addr} {xs : List V} : Iter B k A (.ref it) xs.length (liJ it l) (fun H => H l = some (.list xs)) (fun i H v H' => xs[i]? = some v ∧ H' = H) where
  next := by
    rintro i f P H s hi ⟨ob, hc, hd, rfl⟩ ib d r o hl
    obtain ⟨vs, n, ia, e⟩ := o.isL hl
    obtain ⟨v, hv, iv⟩ := ia.get (i := i) (x := xs[i]) (by simp [hi])
    refine wpAny_pyNext_list_item ⟨ob, o.foot (Foot.one_self _ _), hc, hd⟩ e.isList (x := v) (by simpa using hv) fun h' hit hs => ?_
    obtain ⟨ob', e', hc', hd'⟩ := hit
    obtain ⟨d', o'⟩ := o.updF d hs e' s.toks
    exact ⟨v, _, _, H, rfl, iv, ⟨ob', hc', hd', rfl⟩, d', o', by simp [hi], rfl⟩
  done := by
    rintro f P H s ⟨ob, hc, hd, rfl⟩ ib d r o hl
    obtain ⟨vs, n, ia, e⟩ := o.isL hl
    refine wpAny_pyNext_list_end r.1 ⟨ob, o.foot (Foot.one_self _ _), hc, hd⟩ e.isList (by simp [ia.length]) fun h' hx => ?_
    exact ⟨rfl, o.endF d hx s.toks⟩
  quiet := by
    rintro i f P H s t v ⟨ob, hc, hd, rfl⟩ o
    exact quiet_of (o.foot (Foot.one_self _ _)) hc (by decide) t v
theorem pyIter_list {B : Base} {A : Around} {P : Pr} {H : Hp} {s : Shared} {l : Addr} {xs : List V} {Q : Value → Shared → Prop} {E : Value → Shared → Prop} (o : Ok P H s) (hl : H l = some (.list xs))
    (h : ∀ f s', (∀ b x, s.heap.get? b = some x → s'.heap.get? b = some x) → (∀ b, f.obj b ≠ none → s.heap.objs.size ≤ b) → liJ s.heap.objs.size l 0 f → Dis P f → Ok (P.with f) H s' → Q (.ref s.heap.objs.size) s') : wpAny B.M A (pyIter (.ref l)) Q E s := by
  obtain ⟨vs, n, ia, e⟩ := o.isL hl
  refine wpAny_pyIter_list e.isList ?_
  obtain ⟨d, o'⟩ := o.pushF (ob := { cls := .type "list_iterator", data := .fields #[.ref l, .int 0 0] }) rfl
  refine h _ _ (fun b x q => Heap.get?_push_of_some _ q) (fun b hb => ?_) ⟨_, rfl, rfl, rfl⟩ d o'
  cases q : (Foot.one s.heap.objs.size { cls := .type "list_iterator", data := .fields #[.ref l, .int 0 0] }).obj b with
  | none => exact absurd q hb
  | some x => rw [(Foot.one_eq q).1]; exact Nat.le_refl _

/-! a range's iterator -/
def rgCount (a b c : Int) : Nat := (Builtin.Range.rangeSize a b c).toNat
def rgJ (it : Addr) (a b c : Int) (i : Nat) (f : Foot) : Prop := f = Foot.one it { cls := .type "range_iterator", dict := none, data := .fields #[rawInt (a + i * c), rawInt (Builtin.Range.rangeSize a b c - i), rawInt c], slots := #[] }
theorem iter_range {B : Base} {k : Nat} {A : Around} {it : Addr} {a b c : Int} (hpos : 0 ≤ Builtin.Range.rangeSize a b c) : Iter B k A (.ref it) (rgCount a b c) (rgJ it a b c) (fun _ => True) (fun i H v H' => v = .int (a + i * c) ∧ H' = H) where
  next := by
    rintro i f P H s hi rfl ib d r o _
    unfold rgCount at hi
    refine wpAny_pyNext_range_item (o.foot (Foot.one_self _ _)) (by omega) fun h' hit hs => ?_
    obtain ⟨d', o'⟩ := o.updF d hs hit (s.toks + 1)
    refine ⟨_, _, _, H, rfl, .int _ _, ?_, d', o', rfl, rfl⟩
    unfold rgJ
    have e1 : a + ((i + 1 : Nat) : Int) * c = a + (i : Int) * c + c := by push_cast; rw [Int.add_mul, Int.one_mul, Int.add_assoc]
    have e2 : Builtin.Range.rangeSize a b c - ((i + 1 : Nat) : Int) = Builtin.Range.rangeSize a b c - (i : Int) - 1 := by push_cast; omega
    rw [e1, e2]
  done := by
    rintro f P H s rfl ib d r o _
    unfold rgCount at *
    refine wpAny_pyNext_range_end r.1 (o.foot (Foot.one_self _ _)) (by omega) fun h' hx => ?_
    exact ⟨rfl, o.endF d hx s.toks⟩
  quiet := by
    rintro i f P H s t v rfl o
    exact quiet_of (o.foot (Foot.one_self _ _)) rfl (by decide) t v
theorem pyIter_range {B : Base} {A : Around} {P : Pr} {H : Hp} {s : Shared} {l : Addr} {a b c : Int} {Q : Value → Shared → Prop} {E : Value → Shared → Prop} (o : Ok P H s) (hl : H l = some (.rng a b c)) (hsm : Builtin.Range.small a b c = true)
    (h : ∀ f s', (∀ b x, s.heap.get? b = some x → s'.heap.get? b = some x) → (∀ b, f.obj b ≠ none → s.heap.objs.size ≤ b) → rgJ s.heap.objs.size a b c 0 f → Dis P f → Ok (P.with f) H s' → Q (.ref s.heap.objs.size) s') : wpAny B.M A (pyIter (.ref l)) Q E s := by
  obtain ⟨t, u, v, e⟩ := o.rng hl
  refine wpAny_pyIter_range e hsm ?_
  obtain ⟨d, o'⟩ := o.pushF (ob := { cls := .type "range_iterator", data := .fields #[rawInt a, rawInt (Builtin.Range.rangeSize a b c), rawInt c] }) rfl
  refine h _ _ (fun b x q => Heap.get?_push_of_some _ q) (fun b' hb => ?_) (by unfold rgJ; simp) d o'
  cases q : (Foot.one s.heap.objs.size { cls := .type "range_iterator", data := .fields #[rawInt a, rawInt (Builtin.Range.rangeSize a b c), rawInt c] }).obj b' with
  | none => exact absurd q hb
  | some x => rw [(Foot.one_eq q).1]; exact Nat.le_refl _

/-! loops -/
section
variable {B : Base} {k : Nat} {F : FI} {vars : List (Option V)} {H : Hp}
/-- an iterator is its own -/
def Self (B : Base) (A : Around) (it : Value) (J : Nat → Foot → Prop) : Prop :=
  ∀ (P : Pr) (f : Foot) (H : Hp) (s : Shared), J 0 f → Ok (P.with f) H s → wpAny B.M A (pyIter it) (fun v s' => v = it ∧ s' = s) (fun _ _ => False) s
/-- a thing that is walked -/
def WIt (B : Base) (k : Nat) (F : FI) (ie : PySem.Expr) (vars : List (Option V)) (H : Hp) (Ψ : Nat → (Hp → Prop) → (Nat → Hp → V → Hp → Prop) → Hp → Prop) : Prop :=
  ∀ A env P s (Q : Value → Shared → Prop), Room k A → B.In P → Fm F env vars P H s → Ok P H s →
    (∀ it J f n Req Item H1 s', Iter B k A it n J Req Item → Self B A it J → J 0 f → Dis P f → Ok (P.with f) H1 s' → Fm F env vars P H1 s' → f.obj env.locals = none → Ψ n Req Item H1 → Q it s') →
    wpAny B.M A (eval ie env) (fun x s1 => wpAny B.M A (pyIter x) Q (fun _ _ => False) s1) (fun _ _ => False) s
theorem WIt.list {ie : PySem.Expr} {Ψ : Nat → (Hp → Prop) → (Nat → Hp → V → Hp → Prop) → Hp → Prop}
    (h : WE B k F ie vars H fun v H1 => ∃ a xs, v = .ref a ∧ H1 a = some (.list xs) ∧ Ψ xs.length (fun H => H a = some (.list xs)) (fun i H v H' => xs[i]? = some v ∧ H' = H) H1) : WIt B k F ie vars H Ψ := by
  intro A env P s Q r i f o q
  refine noE (h A env P s r i f o) ?_
  rintro val s1 ⟨v, H1, ia, f1, o1, a, xs, rfl, hl, hΨ⟩
  cases ia
  refine pyIter_list o1 hl fun ft s2 hk hb j d o2 => ?_
  refine q _ _ ft _ _ _ H1 s2 iter_list (fun P f H s j o => ?_) j d o2 (f1.keep hk) ?_ hΨ
  · obtain ⟨ob, hc, hd, rfl⟩ := j
    exact wpAny_pyIter_listiter ⟨ob, o.foot (Foot.one_self _ _), hc, hd⟩ ⟨rfl, rfl⟩
  · cases q : ft.obj env.locals with
    | none => rfl
    | some x => exact absurd (hb _ (by rw [q]; exact fun h => nomatch h)) (Nat.not_le.mpr f1.lt)
theorem WIt.range {ie : PySem.Expr} {Ψ : Nat → (Hp → Prop) → (Nat → Hp → V → Hp → Prop) → Hp → Prop}
    (h : WE B k F ie vars H fun v H1 => ∃ r a b c, v = .ref r ∧ H1 r = some (.rng a b c) ∧ Builtin.Range.small a b c = true ∧ 0 ≤ Builtin.Range.rangeSize a b c ∧ Ψ (rgCount a b c) (fun _ => True) (fun i H v H' => v = .int (a + i * c) ∧ H' = H) H1) : WIt B k F ie vars H Ψ := by
  intro A env P s Q r i f o q
  refine noE (h A env P s r i f o) ?_
  rintro val s1 ⟨v, H1, ia, f1, o1, l, a, b, c, rfl, hl, hsm, hpos, hΨ⟩
  cases ia
  refine pyIter_range o1 hl hsm fun ft s2 hk hb j d o2 => ?_
  refine q _ _ ft _ _ _ H1 s2 (iter_range hpos) (fun P f H s j o => ?_) j d o2 (f1.keep hk) ?_ hΨ
  · have j' : f = _ := j
    subst j'
    exact wpAny_pyIter_rangeiter (o.foot (Foot.one_self _ _)) ⟨rfl, rfl⟩
  · cases q : ft.obj env.locals with
    | none => rfl
    | some x => exact absurd (hb _ (by rw [q]; exact fun h => nomatch h)) (Nat.not_le.mpr f1.lt)
/-- what is asked of a loop -/
def ForOk (B : Base) (k : Nat) (F : FI) (target : PySem.Expr) (body : List Stmt) (vars : List (Option V)) (Ψ : Fl → List (Option V) → Hp → Prop) (n : Nat) (Req : Hp → Prop) (Item : Nat → Hp → V → Hp → Prop) (H1 : Hp) : Prop :=
  ∃ Inv : Nat → List (Option V) → Hp → Prop, Inv 0 vars H1 ∧ (∀ i v H, Inv i v H → Req H) ∧
    (∀ i vars H v H1, i < n → Inv i vars H → Item i H v H1 → WA B k F target v vars H1 fun v2 H2 => WSs B k F body v2 H2 (turnEnd (Inv (i + 1)) Ψ)) ∧ (∀ vars H, Inv n vars H → Ψ .next vars H)
theorem WSs.for {target ie : PySem.Expr} {body rest : List Stmt} {pos : Pos} {Φ : Fl → List (Option V) → Hp → Prop} (h : WIt B k F ie vars H (ForOk B k F target body vars (thenDo B k F rest Φ)))
    (hs : ∀ env x, foldedSetIterable ie env x = pure x := by intro _ _; with_unfolding_all rfl) : WSs B k F (.For target ie body [] pos :: rest) vars H Φ := by
  refine WSs.cons fun A env P s r i f o => ?_
  refine wpAny_For ?_ (hs env)
  refine h A env P s _ r i f o fun it J ft n Req Item H1 s2 I self j d o2 f2 hloc hΨ => ?_
  obtain ⟨Inv, h0, hreq, hturn, hfin⟩ := hΨ
  refine codeAny_mono (for_core (Ψ := thenDo B k F rest Φ) I Inv hreq hturn hfin r i f2 o2 d hloc j h0) ?_
  rintro (_ | fl) s3 h3
  · exact h3.elim
  · exact h3
theorem WSs.while {test : PySem.Expr} {body rest : List Stmt} {pos : Pos} {Φ : Fl → List (Option V) → Hp → Prop} (Inv : Nat → List (Option V) → Hp → Prop) (n : Nat) (h0 : Inv n vars H)
    (turn : ∀ n vars H, Inv n vars H → WT B k F test vars H fun b H1 => (b = true → WSs B k F body vars H1 (turnEnd (fun v2 H2 => ∃ m, m < n ∧ Inv m v2 H2) (thenDo B k F rest Φ))) ∧ (b = false → WSs B k F rest vars H1 Φ)) :
    WSs B k F (.While test body [] pos :: rest) vars H Φ := by
  refine WSs.cons fun A env P s r i f o => ?_
  refine wpAny_While ?_
  refine codeAny_mono (R := fun r s' => match r with | .ok fl => ∃ g v' H', FlIs g fl ∧ Fm F env v' P H' s' ∧ Ok P H' s' ∧ thenDo B k F rest Φ g v' H' | .error _ => False)
    (codeAny_whileLoop (fun n s => ∃ vars H, Fm F env vars P H s ∧ Ok P H s ∧ Inv n vars H) ?_ n ⟨vars, H, f, o, h0⟩) ?_
  · rintro n s ⟨vars, H, f, o, hI⟩
    refine noE (turn n vars H hI A env P s r i f o) ?_
    rintro b s1 ⟨H1, f1, o1, ht, hf⟩
    cases b with
    | true =>
      refine noE (ht rfl A env P s1 r i f1 o1) ?_
      rintro fl s2 ⟨g, v2, H2, ifl, f2, o2, h2⟩
      cases ifl with
      | next => obtain ⟨m, hm, hI⟩ := h2; exact ⟨m, hm, _, _, f2, o2, hI⟩
      | cont => obtain ⟨m, hm, hI⟩ := h2; exact ⟨m, hm, _, _, f2, o2, hI⟩
      | brk => exact ⟨_, _, _, .next, f2, o2, h2⟩
      | ret iv => exact ⟨_, _, _, .ret iv, f2, o2, h2⟩
    | false =>
      exact wpAny_execs_nil ⟨_, _, _, .next, f1, o1, hf rfl⟩
  · rintro (_ | fl) s3 h3
    · exact h3.elim
    · exact h3
end
end Mine
end
noncomputable section
open PySem PySem.W PyProof.Rows
namespace Mine
/-- a comprehension's table, as it runs within a block -/
def relab (sc0 sc : Scope) : Scope :=
  { sc0 with names := sc0.names.map fun (n, k) => if (k == .free && sc.kind == .function && sc.names.lookup n == some .cell) then (n, .cell) else (n, k) }
theorem closure_go {env : Env} (f : Str × NameKind → List (Str × Addr) → Sem (ForInStep (List (Str × Addr)))) (hf : ∀ n kd cs, f (n, kd) cs = if kd == .free then (do let a ← cellOf env n; pure (ForInStep.yield ((n, a) :: cs))) else pure (ForInStep.yield cs)) :
    ∀ (names : List (Str × NameKind)) (fcs acc : List (Str × Addr)), ((names.filter (·.2 == .free)).map (·.1)) = fcs.map (·.1) → (∀ p ∈ fcs, env.cells.lookup p.1 = some p.2) →
    (forIn names acc f : Sem (List (Str × Addr))) = pure (fcs.reverse ++ acc)
  | [], fcs, acc, h, _ => by cases fcs with | nil => rfl | cons => simp at h
  | (n, kd) :: r, fcs, acc, h, hc => by
    rw [List.forIn_cons, hf]
    by_cases hk : (kd == NameKind.free) = true
    · simp only [hk, if_true]
      rw [List.filter_cons, if_pos hk] at h
      cases fcs with
      | nil => simp at h
      | cons p fcs =>
        simp only [List.map_cons, List.cons.injEq] at h
        have e : cellOf env n = pure p.2 := by unfold cellOf; rw [h.1, hc p List.mem_cons_self]
        rw [e]
        simp only [pure_bind]
        rw [closure_go f hf r fcs _ h.2 fun q hq => hc q (List.mem_cons_of_mem _ hq), h.1]
        simp
    · simp only [hk, Bool.false_eq_true, if_false, pure_bind]
      rw [List.filter_cons, if_neg hk] at h
      exact closure_go f hf r fcs acc h hc
theorem closureFor_is {env : Env} {scope : Scope} {fcs : List (Str × Addr)} (h : ((scope.names.filter (·.2 == .free)).map (·.1)) = fcs.map (·.1)) (hc : ∀ p ∈ fcs, env.cells.lookup p.1 = some p.2) : closureFor scope env = pure fcs.reverse := by
  simp only [closureFor]
  rw [closure_go (env := env) _ (fun n kd cs => by cases hkc : kd == NameKind.free <;> simp [hkc]) scope.names fcs [] h hc, List.append_nil]
  rfl
/-- the tests of a comprehension -/
def WIf (B : Base) (k : Nat) (F : FI) (ifs : List PySem.Expr) (vars : List (Option V)) (H : Hp) (Φ : Bool → Hp → Prop) : Prop :=
  match ifs with
  | [] => Φ true H
  | [c] => WT B k F c vars H Φ
  | _ => False
theorem Ok.reveal {P : Pr} {H : Hp} {s : Shared} {D : Addr} {ob : Obj} {o : O} (hP : P.obj D = none) (K : Ok (P.put D ob) H s) (i : ObIs o ob) : Ok P (put H D o) s := by
  have hD := K.prot D ob (Pr.put_self _ _ _)
  refine ⟨fun a x h => ?_, fun a x h => ?_, fun a x h => ?_, K.gens, K.bare, K.os⟩
  · have : a ≠ D := by rintro rfl; rw [hP] at h; cases h
    exact K.prot a x (by rw [Pr.put_ne _ _ this]; exact h)
  · by_cases e : a = D
    · subst e; rw [put_self] at h; cases h; exact ⟨ob, hD, i⟩
    · rw [put_ne _ _ e] at h; exact K.objs a x h
  · have : a ≠ D := by rintro rfl; rw [hP] at h; cases h
    rw [put_ne _ _ this]
    exact K.dis a x (by rw [Pr.put_ne _ _ this]; exact h)
abbrev accObj (vs : Array Value) (n : Nat) : Obj := { cls := .type "list", data := .seq vs n }
def CompSt (n : Nat) (J : Nat → Foot → Prop) (Inv : Nat → List V → Hp → Prop) (P : Pr) (D : Addr) (F : FI) (env : Env) (m : Nat) (s : Shared) : Prop :=
  ∃ (i : Nat) (f : Foot) (out : List V) (outv : List Value) (c : Nat) (vars : List (Option V)) (H : Hp), i ≤ n ∧ m = n - i ∧ out.length ≤ i ∧ Are out outv ∧ Fm F env vars (P.put D (accObj outv.toArray c)) H s ∧ Ok ((P.put D (accObj outv.toArray c)).with f) H s ∧
    Dis (P.put D (accObj outv.toArray c)) f ∧ f.obj env.locals = none ∧ J i f ∧ Inv i out H
def CompOut (n : Nat) (Inv : Nat → List V → Hp → Prop) (P : Pr) (D : Addr) (F : FI) (env : Env) (r : Result) (s' : Shared) : Prop :=
  match r with
  | .ok _ => ∃ out H' vars', H' D = none ∧ Fm F env vars' P H' s' ∧ Ok P (put H' D (.list out)) s' ∧ Inv n out H'
  | .error _ => False
theorem comp_loop {B : Base} {k : Nat} {F : FI} {it : Value} {n : Nat} {J : Nat → Foot → Prop} {Req : Hp → Prop} {Item : Nat → Hp → V → Hp → Prop} {A : Around} (I : Iter B k A it n J Req Item) (hn : n ≤ sizeLine) {elt target ie : PySem.Expr} {ifs : List PySem.Expr} {scope : Scope} {pos : Pos} {vs0 : List (Option V)}
    (hv : vs0.all (·.isNone) = true) (Inv : Nat → List V → Hp → Prop) (req : ∀ i v H, Inv i v H → Req H)
    (turn : ∀ i out H v H1, i < n → Inv i out H → Item i H v H1 → WA B k F target v vs0 H1 fun v2 H2 => WIf B k F ifs v2 H2 fun b H3 => (b = true → WE B k F elt v2 H3 fun x H4 => Inv (i + 1) (out ++ [x]) H4) ∧ (b = false → Inv (i + 1) out H3))
    {env : Env} {P : Pr} {f : Foot} {vars : List (Option V)} {H : Hp} {s : Shared} {D : Addr} {c0 : Nat} (r : Room k A) (ib : B.In P) (hD : P.obj D = none) (fm : Fm F env vars (P.put D (accObj #[] c0)) H s) (o : Ok ((P.put D (accObj #[] c0)).with f) H s) (d : Dis (P.put D (accObj #[] c0)) f) (hl : f.obj env.locals = none) (j : J 0 f) (h : Inv 0 [] H) :
    codeAny B.M A (.compLoop (.ListComp elt [⟨target, ie, ifs, 0⟩] scope pos) 0 it (.ref D) env) (CompOut n Inv P D F env) s := by
  refine codeAny_loop rfl (CompSt n J Inv P D F env) ?_ (n - 0) ⟨0, f, [], [], c0, vars, H, Nat.zero_le _, rfl, Nat.le_refl _, .nil, fm, o, d, hl, j, h⟩
  rintro m s ⟨i, f, out, outv, c, vars, H, hi, rfl, hlen, ao, fm, o, d, hl, j, h⟩
  show wpAny _ _ ((compTurn (.ListComp elt [⟨target, ie, ifs, 0⟩] scope pos) 0 it (.ref D) env).onRaise (fun x => do noteFrame x env; theTreesLotGoes x)) _ _ s
  refine wpAny_noted ?_
  rw [compTurn_list]
  have hA : A.under (.compLoop (.ListComp elt [⟨target, ie, ifs, 0⟩] scope pos) 0 it (.ref D) env) = A := rfl
  rw [hA]
  have ibP : B.In (P.put D (accObj outv.toArray c)) := fun a x e => by
    have : a ≠ D := by rintro rfl; have := ib a x e; rw [hD] at this; cases this
    rw [Pr.put_ne _ _ this]; exact ib a x e
  obtain ⟨P', hP, d', o', back⟩ := fm.guardF o d hl
  have ib' : B.In P' := fun a x e => hP a x (ibP a x e)
  refine wpAny_bind (wpAny_standAt (wpAny_bind ?_))
  have hlD : env.locals ≠ D := by
    rintro e
    have := fm.locP
    rw [e, Pr.put_self] at this; cases this
  have clean : ∀ {vars : List (Option V)} {H s} {ob : Obj}, Fm F env vars (P.put D ob) H s → Fm F env vs0 (P.put D ob) H s := fun K => ⟨K.sc, K.kind, K.glob, K.blt, K.nd, K.loc, K.cel, K.locP, K.locH,
    let ⟨m, a, _⟩ := K.ns; ⟨m, a, fun i x v _ hw => by have := List.all_eq_true.mp hv _ (List.mem_of_getElem? hw); cases this⟩, K.cells, K.coro, K.cod⟩
  by_cases hlt : i < n
  · refine noE (I.next i f P' H s hlt j ib' d' r o' (req _ _ _ h)) ?_
    rintro _ s1 ⟨val, v, f1, H1, rfl, iv, j1, d1, o1, it1⟩
    obtain ⟨fm2, d2, o2, hl2⟩ := back _ _ _ d1 o1
    refine wpAny_bind (noE (I.quiet (i + 1) f1 _ H1 s1 target val j1 o2) ?_)
    rintro _ _ rfl
    have fmw : ∀ {vars H s}, Fm F env vars (P.put D (accObj outv.toArray c)) H s → Fm F env vars ((P.put D (accObj outv.toArray c)).with f1) H s := fun K => K.mono (fun _ e => e) (fun _ => K.locH) fun _ => by
      show (f1.obj env.locals).or ((P.put D (accObj outv.toArray c)).obj env.locals) = none
      rw [hl2]; exact K.locP
    have fmb : ∀ {vars H s}, Fm F env vars ((P.put D (accObj outv.toArray c)).with f1) H s → Fm F env vars (P.put D (accObj outv.toArray c)) H s := fun K => K.mono (fun _ e => e) (fun _ => K.locH) fun _ => by
      have := K.locP
      have : (f1.obj env.locals).or ((P.put D (accObj outv.toArray c)).obj env.locals) = none := this
      rw [hl2] at this; exact this
    refine wpAny_bind (noE (turn i out H v H1 hlt h it1 A env _ _ val r (ibP.with d2) (fmw (clean fm2)) o2 iv) ?_)
    rintro _ s2 ⟨v2, H2, fm3, o3, h3⟩
    -- the tests, then what the turn leaves
    have fin : ∀ s3 (b : Bool) H3, Fm F env v2 ((P.put D (accObj outv.toArray c)).with f1) H3 s3 → Ok ((P.put D (accObj outv.toArray c)).with f1) H3 s3 → ((b = true → WE B k F elt v2 H3 fun x H4 => Inv (i + 1) (out ++ [x]) H4) ∧ (b = false → Inv (i + 1) out H3)) →
        wpAny B.M A (if b = true then ((eval elt env >>= fun x => PySem.call (.builtin "list.append") [.ref D, x] >>= fun _ => pure ()) >>= fun _ => PySem.again (.compLoop (.ListComp elt [⟨target, ie, ifs, 0⟩] scope pos) 0 it (.ref D) env)) else PySem.again (.compLoop (.ListComp elt [⟨target, ie, ifs, 0⟩] scope pos) 0 it (.ref D) env))
          (fun fin s' => (match fin with | .done f => CompOut n Inv P D F env (.ok f) s' | .again c' => c' = (.compLoop (.ListComp elt [⟨target, ie, ifs, 0⟩] scope pos) 0 it (.ref D) env) ∧ ∃ m, m < n - i ∧ CompSt n J Inv P D F env m s'))
          (fun _ _ => False) s3 := by
      intro s3 b H3 fm4 o4 hb
      cases b with
      | false =>
        rw [if_neg Bool.false_ne_true]
        exact wpAny_pure ⟨rfl, n - (i + 1), by omega, i + 1, f1, out, outv, c, v2, H3, hlt, rfl, Nat.le_succ_of_le hlen, ao, fmb fm4, o4, d2, hl2, j1, hb.2 rfl⟩
      | true =>
        rw [if_pos rfl]
        refine wpAny_bind (wpAny_bind (wpAny_mono (hb.1 rfl A env _ s3 r (ibP.with d2) fm4 o4) ?_ fun _ _ e => e))
        rintro x s4 ⟨xv, H4, ix, fm5, o5, h5⟩
        have hDo : s4.heap.get? D = some (accObj outv.toArray c) := o5.prot D _ (Pr.with_of d2 (Pr.put_self _ _ _))
        refine wpAny_bind (wpAny_list_append_plain ⟨c, hDo⟩ (fun h' hpl hs => ?_) (by simp only [List.size_toArray]; rw [← ao.length]; omega))
        obtain ⟨c', e'⟩ := hpl
        have e2 : (outv.toArray.push x) = (outv ++ [x]).toArray := by simp
        rw [e2] at e'
        have hHD : H4 D = none := o5.dis D _ (Pr.with_of d2 (Pr.put_self _ _ _))
        have hfD : f1.obj D = none := by
          cases q : f1.obj D with
          | none => rfl
          | some y => have := d2.obj D y q; rw [Pr.put_self] at this; cases this
        have o6 := o5.updP (Pr.with_of d2 (Pr.put_self _ _ _)) hs e' s4.toks
        have d6 : Dis (P.put D (accObj (outv ++ [x]).toArray c')) f1 := ⟨fun a y q => by
          have : a ≠ D := by rintro rfl; rw [hfD] at q; cases q
          rw [Pr.put_ne _ _ this]; have z := d2.obj a y q; rw [Pr.put_ne _ _ this] at z; exact z, d2.gen⟩
        have o7 : Ok ((P.put D (accObj (outv ++ [x]).toArray c')).with f1) H4 { s4 with heap := h', toks := s4.toks } := o6.weak (fun a y q => by
          have q' : (f1.obj a).or ((P.put D (accObj (outv ++ [x]).toArray c')).obj a) = some y := q
          show (if a = D then some (accObj (outv ++ [x]).toArray c') else (f1.obj a).or ((P.put D (accObj outv.toArray c)).obj a)) = some y
          by_cases e : a = D
          · subst e; rw [hfD, Option.none_or, Pr.put_self] at q'; rw [if_pos rfl]; exact q'
          · rw [if_neg e, Pr.put_ne _ _ e]; rw [Pr.put_ne _ _ e] at q'; exact q') (fun _ _ h => h) (fun _ _ h => h) rfl
        have fm6 : Fm F env v2 (P.put D (accObj (outv ++ [x]).toArray c')) H4 { s4 with heap := h', toks := s4.toks } := (fmb fm5).mono (fun _ e => (hs.2 _ hlD).trans e) (fun _ => fm5.locH) fun _ => by
          have := (fmb fm5).locP
          rw [Pr.put_ne _ _ hlD] at this ⊢; exact this
        exact wpAny_pure <| wpAny_pure ⟨rfl, n - (i + 1), by omega, i + 1, f1, out ++ [xv], outv ++ [x], c', v2, H4, hlt, rfl, by simp; omega, ao.append (.cons ix .nil), fm6, o7, d6, hl2, j1, h5⟩
    match ifs, h3, fin with
    | [], h3, fin =>
      refine wpAny_bind (wpAny_pure ?_)
      exact noE (fin s2 true H2 fm3 o3 h3) fun _ _ q => q
    | [cnd], h3, fin =>
      refine wpAny_bind ?_
      rw [List.forIn_cons]
      refine wpAny_bind ?_
      show wpAny _ _ (isTrue cnd env (eval cnd env) >>= fun ok => pure (ForInStep.yield ok)) _ _ _
      refine wpAny_bind (noE (h3 A env _ s2 r (ibP.with d2) fm3 o3) ?_)
      rintro b s3 ⟨H3, fm4, o4, hb⟩
      refine wpAny_pure ?_
      show wpAny _ _ (forIn [] b _) _ _ _
      rw [List.forIn_nil]
      exact wpAny_pure (noE (fin s3 b H3 fm4 o4 hb) fun _ _ q => q)
    | _ :: _ :: _, h3, _ => exact h3.elim
  · have e : i = n := by omega
    subst e
    refine noE (I.done f P' H s j ib' d' r o' (req _ _ _ h)) ?_
    rintro _ s1 ⟨rfl, o1⟩
    have z : P'.with ⟨fun _ => none, fun _ => none⟩ = P' := by unfold Pr.with; simp
    obtain ⟨fm2, _, o2, _⟩ := back H s1 ⟨fun _ => none, fun _ => none⟩ ⟨fun _ _ h => (nomatch h), fun _ _ h => (nomatch h)⟩ (by rw [z]; exact o1)
    have z2 : (P.put D (accObj outv.toArray c)).with ⟨fun _ => none, fun _ => none⟩ = P.put D (accObj outv.toArray c) := by unfold Pr.with; simp
    rw [z2] at o2
    refine wpAny_pure ?_
    refine ⟨out, H, vars, o2.dis D _ (Pr.put_self _ _ _), fm2.mono (fun _ e => e) (fun _ => fm2.locH) (fun _ => ?_), o2.reveal hD (.list c ao), h⟩
    have := fm2.locP
    rw [Pr.put_ne _ _ hlD] at this; exact this
end Mine
end
noncomputable section
open PySem PySem.W PyProof.Rows
namespace Mine
/-- the looks at a comprehension's table -/
structure CLooks (scope sc : Scope) (fns : List Str) (names : List Str) (vs0 : List (Option V)) : Prop where
  fr : ((scope.names.filter (·.2 == .free)).map (·.1)) = fns
  fnd : fns.Nodup
  noc : celNames scope.names = []
  kind : scope.kind = .function
  co : scope.isCoroutine = false
  nd : names.Nodup
  lo : locOk scope names = true
  lo' : locOk (relab scope sc) names = true
  ce : celOk scope fns = true
  ce' : celOk (relab scope sc) fns = true
  vs : vs0.all (·.isNone) = true
  nm : (scope.names.all fun x => x.2 != .local || scope.names.lookup x.1 == some .local) = true
theorem relabel_eq (scope : Scope) (env : Env) : relabel scope env = relab scope env.scope := rfl
/-- what a comprehension leaves -/
def CompFin (sz : Nat) (n : Nat) (Inv : Nat → List V → Hp → Prop) (P : Pr) (D C : Addr) (s' : Shared) : Prop :=
  sz ≤ C ∧ ∃ out H' m, H' D = none ∧ Ok P (put H' D (.list out)) s' ∧ Inv n out H' ∧ s'.heap.Ns C m ∧ P.obj C = none ∧ (put H' D (.list out)) C = none
theorem Dis.put {P : Pr} {f : Foot} (d : Dis P f) {D : Addr} (ob : Obj) (h : f.obj D = none) : Dis (P.put D ob) f := ⟨fun a o q => by
  have : a ≠ D := by rintro rfl; rw [h] at q; cases q
  rw [Pr.put_ne _ _ this]; exact d.obj a o q, d.gen⟩
theorem with_put {P : Pr} {f : Foot} {D : Addr} (ob : Obj) (h : f.obj D = none) (a : Addr) : ((P.put D ob).with f).obj a = ((P.with f).put D ob).obj a := by
  show (f.obj a).or (if a = D then some ob else P.obj a) = if a = D then some ob else (f.obj a).or (P.obj a)
  by_cases e : a = D
  · subst e; rw [h, if_pos rfl, if_pos rfl]; rfl
  · rw [if_neg e, if_neg e]
theorem backE {F : FI} {env : Env} {vars : List (Option V)} {P0 P : Pr} (back : ∀ H' s' f', Dis P f' → Ok (P.with f') H' s' → Fm F env vars P0 H' s' ∧ Dis P0 f' ∧ Ok (P0.with f') H' s' ∧ f'.obj env.locals = none) : ∀ H' s', Ok P H' s' → Fm F env vars P0 H' s' ∧ Ok P0 H' s' := fun H' s' o => by
  have z : ∀ P : Pr, P.with ⟨fun _ => none, fun _ => none⟩ = P := fun P => by unfold Pr.with; simp
  obtain ⟨fm2, _, o2, _⟩ := back H' s' ⟨fun _ => none, fun _ => none⟩ ⟨fun _ _ h => (nomatch h), fun _ _ h => (nomatch h)⟩ (by rw [z]; exact o)
  rw [z] at o2
  exact ⟨fm2, o2⟩
theorem comp_start {B : Base} {k : Nat} {F : FI} {it : Value} {n : Nat} {J : Nat → Foot → Prop} {Req : Hp → Prop} {Item : Nat → Hp → V → Hp → Prop} {A : Around} (I : Iter B k A it n J Req Item) (hn : n ≤ sizeLine)
    (self : Self B A it J)
    {elt target ie : PySem.Expr} {ifs : List PySem.Expr} {scope : Scope} {pos : Pos} {fcs : List (Str × Addr)} {names : List Str} {vs0 : List (Option V)}
    (L : CLooks scope F.sc (fcs.map (·.1)) names vs0) (hfc : ∀ p ∈ fcs, p ∈ F.cells)
    (Inv : Nat → List V → Hp → Prop) (req : ∀ i v H, Inv i v H → Req H)
    (turn : ∀ i out H v H1, i < n → Inv i out H → Item i H v H1 → WA B k ⟨relab scope F.sc, names, fcs, none⟩ target v vs0 H1 fun v2 H2 => WIf B k ⟨relab scope F.sc, names, fcs, none⟩ ifs v2 H2 fun b H3 => (b = true → WE B k ⟨relab scope F.sc, names, fcs, none⟩ elt v2 H3 fun x H4 => Inv (i + 1) (out ++ [x]) H4) ∧ (b = false → Inv (i + 1) out H3))
    {env : Env} {vars : List (Option V)} {P0 P : Pr} {f : Foot} {H H0 : Hp} {s0 s : Shared} {R : Value → Addr → Result → Shared → Prop} (r : Room k A) (ib : B.In P) (fm0 : Fm F env vars P0 H0 s0) (o : Ok (P.with f) H s) (d : Dis P f) (j : J 0 f) (h : Inv 0 [] H)
    (hR : ∀ D C s' fl, CompFin s.heap.objs.size n Inv P D C s' → R (.ref D) C (.ok fl) s') :
    wpAny B.M A (newList []) (fun acc s₃ => wpAny B.M A (newFunctionEnv scope env.globals fcs.reverse [] env.qual none .none (some env)) (fun cenv s₄ =>
        codeAny B.M A (.compStart (.ListComp elt [⟨target, ie, ifs, 0⟩] scope pos) 0 it acc { cenv with scope := relabel scope env }) (R acc cenv.locals) s₄) (fun _ _ => False) s₃) (fun _ _ => False) s := by
  refine wpAny_newObj_type ?_ (by show ([] : List Value).toArray.size ≤ sizeLine; simp)
  have hfD : f.obj s.heap.objs.size = none := by
    cases q : f.obj s.heap.objs.size with
    | none => rfl
    | some x => exact absurd (Heap.lt_size (o.foot q)) (Nat.lt_irrefl _)
  have hPD : P.obj s.heap.objs.size = none := (o.drop d).newP
  have o1 : Ok ((P.put s.heap.objs.size (accObj #[] 0)).with f) H { s with heap := s.heap.push (accObj #[] 0) } :=
    (o.pushP (ob := accObj #[] 0) rfl s.toks).weak (fun a x q => by rw [with_put _ hfD] at q; exact q) (fun _ _ h => h) (fun _ _ h => h) rfl
  have d1 := d.put (accObj #[] 0) hfD
  rw [fm0.glob]
  refine env_new (fcs := fcs) none (fun _ _ e => nomatch e) (names := names) (vs := vs0) o1 L.kind L.co L.nd L.lo (by rw [L.noc]; exact L.ce) (by rw [L.noc]; exact .nil) L.vs (fun x c hm => by have := lookup_rev (acc := []) L.fnd hm; rwa [List.append_nil] at this)
    (fun x hx => by rw [L.noc] at hx; cases hx) (fun e he => by cases he; exact fm0.blt) fun cs cenv s4 h1 _ _ _ hsc hloc fm o4 => ?_
  rw [L.noc] at h1
  have hcs : cs = [] := List.length_eq_zero_iff.mp h1
  subst hcs
  rw [List.forIn_nil]
  refine wpAny_pure ?_
  have hfl : f.obj cenv.locals = none := by
    have := fm.locP
    have : (f.obj cenv.locals).or ((P.put s.heap.objs.size (accObj #[] 0)).obj cenv.locals) = none := this
    cases q : f.obj cenv.locals with
    | none => rfl
    | some x => rw [q] at this; cases this
  have fm' : Fm ⟨relab scope F.sc, names, fcs, none⟩ { cenv with scope := relabel scope env } vs0 (P.put s.heap.objs.size (accObj #[] 0)) H s4 := by
    refine ⟨by show relabel scope env = _; rw [relabel_eq, fm0.sc], L.kind, fm.glob, fm.blt, L.nd, L.lo', L.ce', ?_, fm.locH, fm.ns, fun x c hm => fm.cells x c (List.mem_append_right _ hm), L.co, fun _ _ e => nomatch e⟩
    have := fm.locP
    have : (f.obj cenv.locals).or ((P.put s.heap.objs.size (accObj #[] 0)).obj cenv.locals) = none := this
    rw [hfl] at this; exact this
  have loop : codeAny B.M A (.compLoop (.ListComp elt [⟨target, ie, ifs, 0⟩] scope pos) 0 it (.ref s.heap.objs.size) { cenv with scope := relabel scope env }) (R (.ref s.heap.objs.size) cenv.locals) s4 := by
    refine codeAny_mono (comp_loop I hn L.vs Inv req turn r ib hPD fm' o4 d1 hfl j h) ?_
    rintro (_ | fl) s5 h5
    · exact h5.elim
    · obtain ⟨out, H', vars', hD, fm5, o5, hI⟩ := h5
      obtain ⟨m, hm, _⟩ := fm5.ns
      refine hR _ _ _ _ ⟨by rw [hloc.1]; show s.heap.objs.size ≤ (s.heap.push _).objs.size; rw [Heap.size_push]; exact Nat.le_succ _, out, H', m, hD, o5, hI, hm, fm5.locP, ?_⟩
      have hne : cenv.locals ≠ s.heap.objs.size := by
        rw [hloc.1]
        show (s.heap.push _).objs.size ≠ _
        rw [Heap.size_push]; exact Nat.succ_ne_self _
      rw [put_ne _ _ hne]; exact fm5.locH
  refine codeAny_compStart_list loop (noE (self _ f H s4 j o4) ?_)
  rintro v s5 ⟨rfl, rfl⟩
  exact loop

section
variable {B : Base} {k : Nat} {F : FI} {vars : List (Option V)} {H : Hp}
/-- what holds at each turn, what is made -/
def CompOk (B : Base) (k : Nat) (F' : FI) (vs0 : List (Option V)) (elt target : PySem.Expr) (ifs : List PySem.Expr) (Ψ : Addr → Hp → Prop) (n : Nat) (Req : Hp → Prop) (Item : Nat → Hp → V → Hp → Prop) (H1 : Hp) : Prop :=
  n ≤ sizeLine ∧ ∃ Inv : Nat → List V → Hp → Prop, (∀ i v H, Inv i v H → Req H) ∧ Inv 0 [] H1 ∧
    (∀ i out H v H1, i < n → Inv i out H → Item i H v H1 → WA B k F' target v vs0 H1 fun v2 H2 => WIf B k F' ifs v2 H2 fun b H3 =>
      (b = true → WE B k F' elt v2 H3 fun x H4 => Inv (i + 1) (out ++ [x]) H4) ∧ (b = false → Inv (i + 1) out H3)) ∧
    (∀ out H' D, Inv n out H' → H' D = none → Ψ D (put H' D (.list out)))
theorem WE.comp {elt target ie : PySem.Expr} {ifs : List PySem.Expr} {scope : Scope} {pos : Pos} {Φ : V → Hp → Prop} (fcs : List (Str × Addr)) (names : List Str) (vs0 : List (Option V)) (L : CLooks scope F.sc (fcs.map (·.1)) names vs0) (hfc : ∀ p ∈ fcs, p ∈ F.cells)
    (h : WIt B k F ie vars H (CompOk B k ⟨relab scope F.sc, names, fcs, none⟩ vs0 elt target ifs fun D H' => Φ (.ref D) H'))
    (hs : ∀ env x, foldedSetIterable ie env x = pure x := by intro _ _; with_unfolding_all rfl) : WE B k F (.ListComp elt [⟨target, ie, ifs, 0⟩] scope pos) vars H Φ := by
  intro A env P0 s r ib0 fm0 o0
  rw [eval_ListComp]
  refine wpAny_comprehension_free (cl := fcs.reverse) rfl (hs env) (closureFor_is L.fr fun p hp => fm0.cells p.1 p.2 (hfc p hp)) L.kind (fun x hx hl => ?_) ?_
  · have := List.all_eq_true.mp L.nm x hx
    rw [hl] at this
    exact eq_of_beq (by simpa using this)
  refine h A env P0 s _ r ib0 fm0 o0 fun it J f n Req Item H1 s2 I self j d0 o20 fm1 hloc hΨ => ?_
  obtain ⟨hn, Inv, hreq, h0, hturn, hfin⟩ := hΨ
  obtain ⟨P, hP, d, o2, back0⟩ := fm1.guardF o20 d0 hloc
  have back := backE back0
  have ib : B.In P := fun a x e => hP a x (ib0 a x e)
  refine comp_start I hn self L hfc Inv hreq hturn r ib fm0 o2 d j h0 fun D C s' fl hf => ?_
  obtain ⟨hCz, out, H', m, hD, o3, hI, hm, hPC, hHC⟩ := hf
  refine ⟨m, hm, fun h' hsb => ?_⟩
  have o4 : Ok P (put H' D (.list out)) { s' with heap := h' } := o3.updN hPC hHC hsb s'.toks
  exact ⟨_, _, .ref D, (back _ _ o4).1, (back _ _ o4).2, hfin _ _ _ hI hD⟩
theorem exec_assign_used {t value : PySem.Expr} {pos : Pos} {env : Env} (hs : swapsWith value (some t) pos.line env = pure true) : exec (.Assign [t] value pos) env = (do
    standAt pos
    evalThenUse value env fun v => assignAll v ((assignEach [t] env).map (·.2))
    pure .next) := by
  rw [arm_exec_Assign]
  have e : swapsWithSole [t] value pos.line env = pure true := hs
  rw [e]; rfl
/-- a name that a comprehension is stored under, before the comprehension's own names go -/
theorem WSs.assignC {x : Str} {p pos cpos : Pos} {elt target ie : PySem.Expr} {ifs : List PySem.Expr} {scope : Scope} {rest : List Stmt} {Φ : Fl → List (Option V) → Hp → Prop} (fcs : List (Str × Addr)) (names : List Str) (vs0 : List (Option V)) (L : CLooks scope F.sc (fcs.map (·.1)) names vs0) (hfc : ∀ p ∈ fcs, p ∈ F.cells)
    (h : WIt B k F ie vars H (CompOk B k ⟨relab scope F.sc, names, fcs, none⟩ vs0 elt target ifs fun D H' => WSt B k F x (.ref D) vars H' fun v1 H2 => WSs B k F rest v1 H2 Φ))
    (hsw : ∀ env : Env, env.scope = F.sc → swapsWith (.ListComp elt [⟨target, ie, ifs, 0⟩] scope cpos) (some (.Name x p)) pos.line env = pure true)
    (hs : ∀ env x, foldedSetIterable ie env x = pure x := by intro _ _; with_unfolding_all rfl) : WSs B k F (.Assign [.Name x p] (.ListComp elt [⟨target, ie, ifs, 0⟩] scope cpos) pos :: rest) vars H Φ := by
  refine WSs.cons fun A env P0 s r ib0 fm0 o0 => ?_
  rw [exec_assign_used (hsw env fm0.sc)]
  refine wpAny_bind (wpAny_standAt (wpAny_bind ?_))
  show wpAny _ _ (comprehension _ scope env ie.pos (newList []) false (eval ie env) (some _) >>= fun _ => pure ()) _ _ s
  refine wpAny_bind ?_
  refine wpAny_comprehension_free (cl := fcs.reverse) rfl (hs env) (closureFor_is L.fr fun p hp => fm0.cells p.1 p.2 (hfc p hp)) L.kind (fun x hx hl => ?_) ?_
  · have := List.all_eq_true.mp L.nm x hx
    rw [hl] at this
    exact eq_of_beq (by simpa using this)
  refine h A env P0 s _ r ib0 fm0 o0 fun it J f n Req Item H1 s2 I self j d0 o20 fm1 hloc hΨ => ?_
  obtain ⟨hn, Inv, hreq, h0, hturn, hfin⟩ := hΨ
  obtain ⟨P, hP, d, o2, back0⟩ := fm1.guardF o20 d0 hloc
  have back := backE back0
  have ib : B.In P := fun a x e => hP a x (ib0 a x e)
  refine comp_start I hn self L hfc Inv hreq hturn r ib fm0 o2 d j h0 fun D C s' fl hf => ?_
  obtain ⟨hCz, out, H', m, hD, o3, hI, hm, hPC, hHC⟩ := hf
  obtain ⟨fm4, o4⟩ := back _ _ o3
  -- the comprehension's own dict is kept while the name is stored
  obtain ⟨oc, es, ep, hoc, hr⟩ := id hm
  have hP0C : P0.obj C = none := by
    cases q : P0.obj C with
    | none => rfl
    | some x => rw [hP C x q] at hPC; cases hPC
  have hlC : env.locals ≠ C := by
    exact Nat.ne_of_lt (Nat.lt_of_lt_of_le fm1.lt hCz)
  have o5 : Ok (P0.put C oc) (put H' D (.list out)) s' := by
    refine ⟨fun a x q => ?_, o4.objs, fun a x q => ?_, o4.gens, o4.bare, o4.os⟩
    · by_cases e : a = C
      · subst e; rw [Pr.put_self] at q; cases q; exact hoc
      · rw [Pr.put_ne _ _ e] at q; exact o4.prot a x q
    · by_cases e : a = C
      · subst e; exact hHC
      · rw [Pr.put_ne _ _ e] at q; exact o4.dis a x q
  have fm5 : Fm F env vars (P0.put C oc) (put H' D (.list out)) s' := fm4.mono (fun _ e => e) (fun _ => fm4.locH) fun _ => by rw [Pr.put_ne _ _ hlC]; exact fm4.locP
  have ib5 : B.In (P0.put C oc) := fun a x e => by
    have : a ≠ C := by rintro rfl; have := ib0 a x e; rw [hP0C] at this; cases this
    rw [Pr.put_ne _ _ this]; exact ib0 a x e
  have st := hfin _ _ _ hI hD A env (P0.put C oc) s' (.ref D) r ib5 fm5 o5 (.ref D)
  have key : ∀ {Q : Unit → Shared → Prop}, wpAny B.M A (storeName env x (.ref D)) Q (fun _ _ => False) s' → wpAny B.M A (assignAll (.ref D) ((assignEach [.Name x p] env).map (·.2))) Q (fun _ _ => False) s' := fun q => wpAny_assign_Name q
  refine key (noE st ?_)
  rintro _ s6 ⟨v1, H2, fm6, o6, h6⟩
  have hC6 : s6.heap.get? C = some oc := o6.prot C oc (Pr.put_self _ _ _)
  refine ⟨m, ⟨oc, es, ep, hC6, hr⟩, fun h' hsb => ?_⟩
  have hH2C : H2 C = none := o6.dis C oc (Pr.put_self _ _ _)
  have o7 : Ok P0 H2 s6 := o6.weak (fun a x q => by
    have : a ≠ C := by rintro rfl; rw [hP0C] at q; cases q
    rw [Pr.put_ne _ _ this]; exact q) (fun _ _ h => h) (fun _ _ h => h) rfl
  refine wpAny_pure (wpAny_pure ⟨_, _, _, .next, ?_, o7.updN hP0C hH2C hsb s6.toks, h6⟩)
  refine fm6.mono (fun _ e => (hsb.2 _ hlC).trans e) (fun _ => fm6.locH) fun _ => ?_
  have := fm6.locP
  rw [Pr.put_ne _ _ hlC] at this; exact this
end
end Mine
end
noncomputable section
open PySem PySem.W PyProof.Rows
open Sem (wp)
namespace Mine
theorem Room.func {k : Nat} {A : Around} (h : Room (k + 1) A) (b : List Stmt) (env : Env) : Room k (A.over (.func b env) []) := by
  unfold Room at *
  refine ⟨h.1, ?_, ?_, ?_⟩
  · have e : (Code.func b env).guards = [] := rfl
    show pushGuards (Code.func b env).guards (pushGuards (guardsOf ([] : List (Code × Pos))) A.guards) = some []
    rw [e]; exact h.2.1
  · have e : (Code.func b env).weight = 1 := rfl
    show A.depth + frameCount [] + (Code.func b env).weight + k < recursionLimit
    rw [e]; have := h.2.2.1
    show A.depth + 0 + 1 + k < recursionLimit
    omega
  · have e : (Code.func b env).cUnits = 3 := rfl
    show A.units + unitsOf [] + (Code.func b env).cUnits + 16 * k + 80 < cLine
    rw [e, unitsOf_nil]; have := h.2.2.2; omega
theorem Room.loop {k : Nat} {A : Around} (h : Room (k + 1) A) {c : Code} (hg : c.guards = []) (hw : c.weight = 0) (hu : c.cUnits ≤ 4) (b : List Stmt) (env : Env) {kk : Result → Sem Fin} {l kp : List Value} {p : Pos} : Room k (A.over c [.ret kk none false l (.func b env) p kp]) := by
  unfold Room at *
  have e1 : (Code.func b env).guards = [] := rfl
  have e2 : (Code.func b env).weight = 1 := rfl
  have e3 : (Code.func b env).cUnits = 3 := rfl
  have f1 : guardsOf [(Code.func b env, p)] = [] := by rw [guardsOf_cons, e1]; rfl
  have f2 : frameCount [(Code.func b env, p)] = 1 := by rw [frameCount_cons, e2]; rfl
  have f3 : unitsOf [(Code.func b env, p)] = 3 := by rw [unitsOf_cons, e3]; rfl
  refine ⟨?_, ?_, ?_, ?_⟩
  · show (marksOver [.ret kk none false l (.func b env) p kp] (A.handled, A.handled)).1 = none
    rw [h.1]; rfl
  · show pushGuards c.guards (pushGuards (guardsOf [(Code.func b env, p)]) A.guards) = some []
    rw [hg, f1]; exact h.2.1
  · show A.depth + frameCount [(Code.func b env, p)] + c.weight + k < recursionLimit
    rw [f2, hw]; have := h.2.2.1; omega
  · show A.units + unitsOf [(Code.func b env, p)] + c.cUnits + 16 * k + 80 < cLine
    rw [f3]; have := h.2.2.2; omega
section
variable {M : Model} {A : Around} {R : GenEnd} {Y : Protocol} {n : Nat} {s₀ : Shared} {c : Code} {fs : List Frame} {s : Shared} {env : Env}
  {K : Flow → Sem Fin} {H : Value → Sem Fin} {gd : Bool → Bool} {lv : List Value → List Value}
/-- a statement that hands nothing out -/
theorem seg_stmt {st : Stmt} (h : wpAny M (A.over c fs) (exec st env) (fun f s' => Seg M A R Y n s₀ c (K f) fs s') (fun _ _ => False) s) : Seg M A R Y n s₀ c ((exec st env).wrap K H gd lv) fs s :=
  seg_wrap (noE h fun _ _ q => q)
theorem seg_If {test : PySem.Expr} {b1 b2 : List Stmt} {pos : Pos}
    (h : wpAny M (A.over c fs) (isTrue test env (eval test env)) (fun b s' => (b = true → Seg M A R Y n s₀ c ((execs b1 env).wrap K H gd lv) fs s') ∧ (b = false → Seg M A R Y n s₀ c ((execs b2 env).wrap K H gd lv) fs s')) (fun _ _ => False) s) :
    Seg M A R Y n s₀ c ((exec (.If test b1 b2 pos) env).wrap K H gd lv) fs s := by
  rw [exec_If]
  refine seg_at ?_
  show Seg M A R Y n s₀ c ((isTrue test env (eval test env) >>= fun b => if b = true then execs b1 env else execs b2 env).wrap K H gd lv) fs s
  rw [Sem.bind_eq_wrap', Sem.wrap_wrap]
  refine seg_wrap (noE h fun b s' hb => ?_)
  cases b with
  | true => exact hb.1 rfl
  | false => exact hb.2 rfl
/-- how a loop's end goes on -/
def loopK (env : Env) (K : Flow → Sem Fin) (H : Value → Sem Fin) (gd : Bool → Bool) (lv : List Value → List Value) (r : Result) : Sem Fin :=
  ((match r with | .ok f => (.pure f : Sem Flow) | .error e => .raise e).onRaise fun (x : Value) => do
        if (← field x 1) == Value.none then unsupported "frame.own-activation:exception-without-traceback"
        setFlight x env.frame).wrap K H gd lv
theorem loopK_ok (f : Flow) : loopK env K H gd lv (.ok f) = K f := rfl
theorem seg_For {target ie : PySem.Expr} {body orelse : List Stmt} {pos : Pos}
    (h : wpAny M (A.over c fs) (eval ie env) (fun x s' => wpAny M (A.over c fs) (pyIter x) (fun it s'' => ∀ p, Seg M A R Y n s₀ (.forLoop target it body orelse env) (M.den (.forLoop target it body orelse env))
      (.ret (loopK env K H gd lv) none (gd false) (lv []) c p [] :: fs) s'') (fun _ _ => False) s') (fun _ _ => False) s)
    (hs : ∀ x, foldedSetIterable ie env x = pure x := by intro _; with_unfolding_all rfl) :
    Seg M A R Y n s₀ c ((exec (.For target ie body orelse pos) env).wrap K H gd lv) fs s := by
  rw [exec_For]
  refine seg_at ?_
  show Seg M A R Y n s₀ c ((eval ie env >>= fun x => foldedSetIterable ie env x >>= fun x => standAt ie.pos >>= fun _ => holding [x] (pyIter x) >>= fun it => runOwn (.forLoop target it body orelse env) env).wrap K H gd lv) fs s
  rw [Sem.bind_eq_wrap', Sem.wrap_wrap]
  refine seg_wrap (noE h fun x s' hx => ?_)
  rw [hs x]
  show Seg M A R Y n s₀ c (Sem.wrap K H gd lv (standAt ie.pos >>= fun _ => holding [x] (pyIter x) >>= fun it => runOwn (.forLoop target it body orelse env) env)) fs s'
  refine seg_at ?_
  show Seg M A R Y n s₀ c (Sem.wrap K H gd lv (holding [x] (pyIter x) >>= fun it => runOwn (.forLoop target it body orelse env) env)) fs s'
  rw [Sem.bind_eq_wrap', Sem.wrap_wrap]
  refine seg_wrap (wpAny_holding (noE hx fun it s'' hit => ?_))
  exact seg_call hit
end
section
variable {prog : Program} {w : World} {A : Around} {R : GenEnd} {Y : Protocol} {n : Nat} {s₀ : Shared} {fs : List Frame} {s : Shared} {env : Env}
/-- how a loop's turn goes on behind its body -/
def turnK (c : Code) : Flow → Sem Fin
  | .next | .cont => .pure (.again c)
  | .brk => .pure (.done .next)
  | .ret v => .pure (.done (.ret v))
def noteH (env : Env) (e : Value) : Sem Fin := (do noteFrame e env; theTreesLotGoes e : Sem Unit).wrap (fun _ => .raise e) .raise id id
theorem seg_forLoop {target : PySem.Expr} {it : Value} {body : List Stmt}
    (hn : wpAny (model prog w) (A.over (.forLoop target it body [] env) fs) (pyNext it) (fun r s' => match r with
      | none => Seg (model prog w) A R Y n s₀ (.block [] env) (.pure (.done .next)) fs s'
      | some v => wpAny (model prog w) (A.over (.forLoop target it body [] env) fs) (letOwnedTupleGo target it v) (fun _ s1 => wpAny (model prog w) (A.over (.forLoop target it body [] env) fs) (PySem.assign target env v) (fun _ s2 =>
          Seg (model prog w) A R Y n s₀ (.forLoop target it body [] env) ((execs body env).wrap (turnK (.forLoop target it body [] env)) (noteH env) id id) fs s2) (fun _ _ => False) s1) (fun _ _ => False) s') (fun _ _ => False) s) :
    Seg (model prog w) A R Y n s₀ (.forLoop target it body [] env) ((model prog w).den (.forLoop target it body [] env)) fs s := by
  show Seg _ A R Y n s₀ _ ((forTurn target it body [] env).onRaise (fun x => do noteFrame x env; theTreesLotGoes x)) fs s
  unfold forTurn
  rw [Sem.onRaise_eq_wrap]
  refine seg_at ?_
  show Seg _ A R Y n s₀ _ (Sem.wrap _ _ _ _ (((pyNext it).onRaise fun _ => standAt { target.pos with line := 0 }) >>= _)) fs s
  rw [Sem.bind_eq_wrap', Sem.wrap_wrap]
  refine seg_wrap (wpAny_onRaise (wpAny_mono hn (fun r s' hr => ?_) fun _ _ f => f.elim))
  cases r with
  | none =>
    refine seg_again rfl ?_
    exact hr
  | some v =>
    show Seg _ A R Y n s₀ _ (Sem.wrap _ _ _ _ (letOwnedTupleGo target it v >>= _)) fs s'
    rw [Sem.bind_eq_wrap', Sem.wrap_wrap]
    refine seg_wrap (noE hr fun _ s1 h1 => ?_)
    show Seg _ A R Y n s₀ _ (Sem.wrap _ _ _ _ (PySem.assign target env v >>= _)) fs s1
    rw [Sem.bind_eq_wrap', Sem.wrap_wrap]
    refine seg_wrap (noE h1 fun _ s2 h2 => ?_)
    show Seg _ A R Y n s₀ _ (Sem.wrap _ _ _ _ (execs body env >>= _)) fs s2
    rw [Sem.bind_eq_wrap', Sem.wrap_wrap]
    rw [Sem.wrap_congr (execs body env) _ _ (K' := turnK (.forLoop target it body [] env)) (H' := noteH env) (fun f => by cases f <;> rfl)
      (fun e => by
        show (do noteFrame e env; theTreesLotGoes e : Sem Unit).bind (fun _ => .raise e) = _
        rw [Sem.bind_eq_wrap]; rfl)]
    exact h2
end
end Mine
end
noncomputable section
open PySem PySem.W PyProof.Rows
open Sem (wp)
namespace Mine
/-! a generator's signs -/
def escs : Nat → Bool → List Nat → List (Int × Str)
  | _, _, [] => []
  | i, true, c :: r => ((i : Int), ⟨#[92, c]⟩) :: escs (i + 1) false r
  | i, false, c :: r => if c = 92 then escs (i + 1) true r else ((i : Int), ⟨#[c]⟩) :: escs (i + 1) false r
/-- whether a backslash is left over -/
def left : Bool → List Nat → Bool
  | e, [] => e
  | true, _ :: r => left false r
  | false, c :: r => left (decide (c = 92)) r
/-- what is kept -/
structure Kp (own : Addr → Prop) (s s' : Shared) : Prop where
  heap : ∀ (b : Addr) (o : Obj), ¬ own b → s.heap.get? b = some o → s'.heap.get? b = some o
  gens : ∀ (i : Nat) (x : GenState), s.gens[i]? = some x → s'.gens[i]? = some x
  os : s'.os = s.os
theorem Kp.refl (own : Addr → Prop) (s : Shared) : Kp own s s := ⟨fun _ _ _ e => e, fun _ _ e => e, rfl⟩
theorem Kp.trans {own : Addr → Prop} {s s' s'' : Shared} (a : Kp own s s') (b : Kp own s' s'') : Kp own s s'' := ⟨fun x o n e => b.heap x o n (a.heap x o n e), fun i x e => b.gens i x (a.gens i x e), b.os.trans a.os⟩
theorem Kp.weak {own own' : Addr → Prop} {s s' : Shared} (a : Kp own s s') (h : ∀ b, own b → own' b) : Kp own' s s' := ⟨fun x o n e => a.heap x o (fun q => n (h x q)) e, a.gens, a.os⟩
/-- the world about a generator -/
structure Wd (B : Base) (s : Shared) : Prop where
  base : ∀ a o, B.obj a = some o → s.heap.get? a = some o
  bare : AllBare s.gens
def Pe : Pr := { obj := fun _ => none, gen := fun _ => none, os := default }
abbrev H0 : Hp := fun _ => none
/-- all that lives but the frame's own dict -/
def Pall (L : Addr) (s : Shared) : Pr := { obj := fun b => if b = L then none else s.heap.get? b, gen := fun i => s.gens[i]?, os := s.os }
theorem Pall.ok {B : Base} {s : Shared} (w : Wd B s) (L : Addr) : Ok (Pall L s) H0 s :=
  ⟨fun a o h => by
    have h' : (if a = L then none else s.heap.get? a) = some o := h
    split at h'
    · cases h'
    · exact h', fun _ _ h => (nomatch h), fun _ _ _ => rfl, fun _ _ h => h, w.bare, rfl⟩
theorem Pall.in {B : Base} {s : Shared} (w : Wd B s) {L : Addr} (hL : B.obj L = none) : B.In (Pall L s) := fun a o e => by
  show (if a = L then none else s.heap.get? a) = some o
  have : a ≠ L := by rintro rfl; rw [hL] at e; cases e
  rw [if_neg this]; exact w.base a o e
theorem Fm.toAll {F : FI} {env : Env} {vars : List (Option V)} {s : Shared} (f : Fm F env vars Pe H0 s) : Fm F env vars (Pall env.locals s) H0 s := f.mono (fun _ e => e) (fun _ => rfl) fun _ => if_pos rfl
theorem Fm.fromAll {F : FI} {env : Env} {vars : List (Option V)} {P : Pr} {H : Hp} {s : Shared} (f : Fm F env vars P H s) : Fm F env vars Pe H0 s := f.mono (fun _ e => e) (fun _ => rfl) fun _ => rfl
/-- new and alive -/
def New (s s' : Shared) (H : Hp) : Prop := ∀ a o, H a = some o → s.heap.get? a = none ∧ ∃ ob, s'.heap.get? a = some ob ∧ ObIs o ob
theorem Ok.out {B : Base} {s s' : Shared} {F : FI} {env : Env} {vars : List (Option V)} {H : Hp} (w : Wd B s) (hL : B.obj env.locals = none) (f : Fm F env vars (Pall env.locals s) H s') (o : Ok (Pall env.locals s) H s') :
    Kp (fun b => b = env.locals) s s' ∧ Wd B s' ∧ New s s' H ∧ Fm F env vars Pe H0 s' := by
  have kp : Kp (fun b => b = env.locals) s s' := ⟨fun b x n e => o.prot b x (by show (if b = env.locals then none else _) = _; rw [if_neg n]; exact e), fun i x e => o.gens i x e, o.os⟩
  refine ⟨kp, ⟨fun a x e => kp.heap a x (by rintro rfl; rw [hL] at e; cases e) (w.base a x e), o.bare⟩, fun a x e => ?_, f.fromAll⟩
  obtain ⟨ob, h1, h2⟩ := o.objs a x e
  refine ⟨?_, ob, h1, h2⟩
  have ha : a ≠ env.locals := by rintro rfl; rw [f.locH] at e; cases e
  cases q : s.heap.get? a with
  | none => rfl
  | some y =>
    have : (Pall env.locals s).obj a = some y := by show (if a = env.locals then none else _) = _; rw [if_neg ha]; exact q
    rw [o.dis a y this] at e; cases e

section
variable {B : Base} {k : Nat} {F : FI} {A : Around} {env : Env} {vars : List (Option V)} {s : Shared}
theorem run_stmt {st : Stmt} {Ψ : Fl → List (Option V) → Hp → Prop} (h : WS B k F st vars H0 Ψ) (r : Room k A) (f : Fm F env vars Pe H0 s) (w : Wd B s) (hL : B.obj env.locals = none) :
    wpAny B.M A (exec st env) (fun fl s' => ∃ g v H', FlIs g fl ∧ (Kp (fun b => b = env.locals) s s' ∧ Wd B s' ∧ New s s' H' ∧ Fm F env v Pe H0 s') ∧ Ψ g v H') (fun _ _ => False) s := by
  refine noE (h A env _ s r (Pall.in w hL) f.toAll (Pall.ok w _)) ?_
  rintro fl s' ⟨g, v, H', i, f', o', h'⟩
  exact ⟨g, v, H', i, o'.out w hL f', h'⟩
theorem run_test {e : PySem.Expr} {Ψ : Bool → Hp → Prop} (h : WT B k F e vars H0 Ψ) (r : Room k A) (f : Fm F env vars Pe H0 s) (w : Wd B s) (hL : B.obj env.locals = none) :
    wpAny B.M A (isTrue e env (eval e env)) (fun b s' => ∃ H', (Kp (fun b => b = env.locals) s s' ∧ Wd B s' ∧ New s s' H' ∧ Fm F env vars Pe H0 s') ∧ Ψ b H') (fun _ _ => False) s := by
  refine noE (h A env _ s r (Pall.in w hL) f.toAll (Pall.ok w _)) ?_
  rintro b s' ⟨H', f', o', h'⟩
  exact ⟨H', o'.out w hL f', h'⟩
theorem run_expr {e : PySem.Expr} {Ψ : V → Hp → Prop} (h : WE B k F e vars H0 Ψ) (r : Room k A) (f : Fm F env vars Pe H0 s) (w : Wd B s) (hL : B.obj env.locals = none) :
    wpAny B.M A (eval e env) (fun val s' => ∃ v H', Is v val ∧ (Kp (fun b => b = env.locals) s s' ∧ Wd B s' ∧ New s s' H' ∧ Fm F env vars Pe H0 s') ∧ Ψ v H') (fun _ _ => False) s := by
  refine noE (h A env _ s r (Pall.in w hL) f.toAll (Pall.ok w _)) ?_
  rintro val s' ⟨v, H', i, f', o', h'⟩
  exact ⟨v, H', i, o'.out w hL f', h'⟩
theorem run_targets {ts : List PySem.Expr} {vs : List V} {vals : List Value} {Ψ : List (Option V) → Hp → Prop} (h : WAs B k F ts vs vars H0 Ψ) (i : Are vs vals) (r : Room k A) (f : Fm F env vars Pe H0 s) (w : Wd B s) (hL : B.obj env.locals = none) :
    wpAny B.M A (assignInOrder ((assignEach ts env).map (·.2)) vals) (fun _ s' => ∃ v H', (Kp (fun b => b = env.locals) s s' ∧ Wd B s' ∧ New s s' H' ∧ Fm F env v Pe H0 s') ∧ Ψ v H') (fun _ _ => False) s := by
  refine noE (h A env _ s vals r (Pall.in w hL) f.toAll (Pall.ok w _) i) ?_
  rintro _ s' ⟨v, H', f', o', h'⟩
  exact ⟨v, H', o'.out w hL f', h'⟩
end

/-! the protocol -/
def ownOf (L e it : Addr) (b : Addr) : Prop := b = L ∨ b = e ∨ b = it
def genP (own : Addr → Prop) (n : Nat) (s₀ s₁ : Shared) : Prop := n = 1 ∧ Kp own s₀ s₁ ∧ AllBare s₁.gens
abbrev genR (own : Addr → Prop) : GenEnd := fun n s₀ r s₁ => r = .ok (.ret .none) ∧ genP own n s₀ s₁
def genY (B : Base) (its : List (Int × Str)) (L e it : Addr) : Protocol := fun m s₀ v s₁ kap =>
  ∃ t p x ob, its[its.length - m]? = some (p, x) ∧ v = .ref t ∧ s₀.heap.get? t = none ∧ ¬ ownOf L e it t ∧ s₁.heap.get? t = some ob ∧ ObIs (.tup [.int p, .str x]) ob ∧ Kp (ownOf L e it) s₀ s₁ ∧ AllBare s₁.gens ∧
    ∃ ol oe oi, s₁.heap.get? L = some ol ∧ s₁.heap.get? e = some oe ∧ s₁.heap.get? it = some oi ∧
      ∀ s'', s''.heap.get? L = some ol → s''.heap.get? e = some oe → s''.heap.get? it = some oi → Wd B s'' → kap (.send .none) s''

theorem strWalk {prog : Program} {w : World} {e it : Addr} (hne : e ≠ it) (x : Str) (t : Tok) :
    ∃ St Mid, (∀ A : Around, A.handled = none → WalksT prog w A e [e, it] [e, it] x.cps.size (fun i vals => ∃ t' y, (∃ c u, x.cps[i]? = some c ∧ y = .str ⟨#[c]⟩ u) ∧ vals = #[.int i t', y]) St Mid) ∧
      (∀ h, IsEnum h e it 0 .none → h.IsStrIter it (strIterType x) x t 0 → St 0 h) ∧ ∀ i h, St i h → ∃ oe oi, h.get? e = some oe ∧ h.get? it = some oi := by
  by_cases ha : x.cps.all (· < 128) = true
  · refine ⟨_, _, fun A hh => WalksT.enumerateD (Draws.strAscii (prog := prog) (w := w) (A := A.in1) hh it x t) e hne (by simpa using hne) (by simp), fun h a b => ⟨⟨_, a⟩, ?_⟩, fun i h st => ?_⟩
    · have : strIterType x = "str_ascii_iterator" := if_pos ha
      rw [this] at b; exact b
    · obtain ⟨⟨old, a⟩, b⟩ := st
      obtain ⟨o, c, _⟩ := b
      exact ⟨_, o, a, c⟩
  · refine ⟨_, _, fun A hh => WalksT.enumerateD (Draws.strWide (prog := prog) (w := w) (A := A.in1) hh it x t) e hne (by simpa using hne) (by simp), fun h a b => ⟨⟨_, a⟩, ?_⟩, fun i h st => ?_⟩
    · have : strIterType x = "str_iterator" := if_neg ha
      rw [this] at b; exact b
    · obtain ⟨⟨old, a⟩, b⟩ := st
      obtain ⟨o, c, _⟩ := b
      exact ⟨_, o, a, c⟩
end Mine
end
noncomputable section
open PySem PySem.W PyProof.Rows
open Sem (wp)
namespace Mine
/-- what the pieces of such a generator's body do -/
structure GSpec (B : Base) (k : Nat) (F : FI) (x : Str) (n1 n2 fnm anm : Str) (ts : List PySem.Expr) (t1 e1 : PySem.Expr) (s5 : Stmt) (t2 : PySem.Expr) (s6 : Stmt) (e2 t3 : PySem.Expr) : Prop where
  st1 : SetAt F.names [some (.str x), none, none, none] n1 (.int 0) [some (.str x), some (.int 0), none, none]
  st2 : SetAt F.names [some (.str x), some (.int 0), none, none] n2 (.bool false) [some (.str x), some (.int 0), some (.bool false), none]
  fn : F.sc.names.lookup fnm = some .globalImplicit ∧ B.mg fnm = none ∧ B.mb fnm = some (.type "enumerate") ∧ (fnm == ("__debug__" : Str)) = false
  an : At F.names [some (.str x), some (.int 0), some (.bool false), none] anm (.str x) ∧ (anm == ("__debug__" : Str)) = false
  tn : ∀ env, (assignEach ts env).length = 2 ∧ (assignEach ts env).findIdx? (·.1) = none
  tg : ∀ p e c i ch, WAs B k F ts [.int i, .str ch] [some (.str x), p, e, c] H0 fun v _ => v = [some (.str x), some (.int i), e, some (.str ch)]
  t1 : ∀ p e c, WT B k F t1 [some (.str x), p, some (.bool e), c] H0 fun b _ => b = e
  e1 : ∀ i e c, WE B k F e1 [some (.str x), some (.int i), some (.bool e), some (.str ⟨#[c]⟩)] H0 fun v H' => ∃ a, v = .ref a ∧ H' a = some (.tup [.int i, .str ⟨#[92, c]⟩])
  s5 : ∀ p e c, WS B k F s5 [some (.str x), p, e, c] H0 fun fl v _ => fl = .next ∧ v = [some (.str x), p, some (.bool false), c]
  t2 : ∀ p e c, WT B k F t2 [some (.str x), p, e, some (.str ⟨#[c]⟩)] H0 fun b _ => b = decide (c = 92)
  s6 : ∀ p e c, WS B k F s6 [some (.str x), p, e, c] H0 fun fl v _ => fl = .next ∧ v = [some (.str x), p, some (.bool true), c]
  e2 : ∀ i e c, WE B k F e2 [some (.str x), some (.int i), some (.bool e), some (.str ⟨#[c]⟩)] H0 fun v H' => ∃ a, v = .ref a ∧ H' a = some (.tup [.int i, .str ⟨#[c]⟩])
  t3 : ∀ p e c, WT B k F t3 [some (.str x), p, some (.bool e), c] H0 fun b _ => b = e

theorem enum_call {B : Base} {F : FI} {A : Around} {env : Env} {vars : List (Option V)} {s : Shared} {x fnm anm : Str} {p1 p2 p3 : Pos} {Q : Value → Shared → Prop} {E : Value → Shared → Prop}
    (hf : F.sc.names.lookup fnm = some .globalImplicit ∧ B.mg fnm = none ∧ B.mb fnm = some (.type "enumerate") ∧ (fnm == ("__debug__" : Str)) = false) (ha : At F.names vars anm (.str x) ∧ (anm == ("__debug__" : Str)) = false) (f : Fm F env vars Pe H0 s) (w : Wd B s)
    (q : ∀ h' t, IsEnum h' (s.heap.objs.size + 1) s.heap.objs.size 0 .none → h'.IsStrIter s.heap.objs.size (strIterType x) x t 0 → (∀ b o, s.heap.get? b = some o → h'.get? b = some o) → Q (.ref (s.heap.objs.size + 1)) { s with heap := h' }) :
    wpAny B.M A (eval (.Call (.Name fnm p1) [.Name anm p2] [] p3) env) Q E s := by
  rw [arm_eval_Call_Name']
  refine wpAny_bind ?_
  refine Calls.Name_function_global f.fn (by unfold Env.kindOf; rw [f.sc]; exact hf.1) (Calls.loadGlobal_builtin (mg := B.mg) (mb := B.mb) (by rw [f.glob]; exact B.glob _ w.base) hf.2.1 (by rw [f.blt]; exact B.blt _ w.base) hf.2.2.1 ?_) hf.2.2.2
  obtain ⟨j, hn, hv⟩ := ha.1.get
  obtain ⟨m, hm, hl⟩ := f.ns
  obtain ⟨val, ev, ia⟩ := hl j anm _ hn hv
  cases ia with
  | str _ t =>
  refine callWith_any rfl rfl (evalArgs_any rfl ?_)
  show wpAny _ _ (spliced [(false, eval (.Name anm p2) env)]) _ _ _
  refine Calls.spliced_cons (wpAny_Name (wpAny_loadName_local f.fn (f.isLoc hn) hm ev (Calls.spliced_nil ⟨.inl fun _ e => (nomatch e), ?_⟩)) ha.2)
  exact call_enumerate_str fun h' a b _ d => q h' t a b d

section
variable {B : Base} {k : Nat} {F : FI} {x n1 n2 fnm anm : Str} {ts : List PySem.Expr} {t1 e1 : PySem.Expr} {s5 : Stmt} {t2 : PySem.Expr} {s6 : Stmt} {e2 t3 e3 : PySem.Expr}
variable (G : GSpec B k F x n1 n2 fnm anm ts t1 e1 s5 t2 s6 e2 t3)
variable {A : Around} {env : Env} {its : List (Int × Str)} {e it : Addr} {gb : List Stmt} {y1 y2 y3 y4 y5 y6 y8 y9 y10 : Pos} {zk : Nat}
/-- the end of such a body -/
def retK : Flow → Sem Fin := fun f => .pure (.done (.ret (match f with | .ret v => v | _ => .none)))
def retH (env : Env) : Value → Sem Fin := fun e => (leaving env e).wrap (fun _ => .raise e) .raise id id
theorem gen_end {own : Addr → Prop} {n : Nat} {s₀ s : Shared} {Y : Protocol} (hn : n = 1) (kp : Kp own s₀ s) (w : Wd B s) : Seg B.M A (genR own) Y n s₀ (.func gb env) (retK .next) [] s :=
  seg_end (.ok (.ret .none)) ⟨rfl, hn, kp, w.bare⟩
/-- what is handed out -/
theorem gen_yield {s₀ s s1 : Shared} {m : Nat} {H' : Hp} {a : Addr} {p : Int} {y : Str} {v : Value} {kap : Resume → Shared → Prop} {vars : List (Option V)} {F : FI}
    (hits : its[its.length - m]? = some (p, y)) (is : Is (.ref a) v) (ha : H' a = some (.tup [.int p, .str y])) (kp0 : Kp (ownOf env.locals e it) s₀ s) (kp : Kp (fun b => b = env.locals) s s1) (w : Wd B s1) (nw : New s s1 H') (f : Fm F env vars Pe H0 s1)
    (he : ∃ oe, s.heap.get? e = some oe) (hi : ∃ oi, s.heap.get? it = some oi) (hel : e ≠ env.locals) (hil : it ≠ env.locals) (hal : ∃ ol, s.heap.get? env.locals = some ol)
    (hk : ∀ s'', (∀ o, s1.heap.get? env.locals = some o → s''.heap.get? env.locals = some o) → (∀ o, s1.heap.get? e = some o → s''.heap.get? e = some o) → (∀ o, s1.heap.get? it = some o → s''.heap.get? it = some o) → Wd B s'' → kap (.send .none) s'') :
    genY B its env.locals e it m s₀ v s1 kap := by
  cases is
  obtain ⟨hno, ob, hob, hio⟩ := nw a _ ha
  obtain ⟨oe, he⟩ := he
  obtain ⟨oi, hi⟩ := hi
  obtain ⟨ol, hl⟩ := hal
  have he1 := kp.heap e oe hel he
  have hi1 := kp.heap it oi hil hi
  obtain ⟨mm, ⟨ol1, _, _, hl1, _⟩, _⟩ := f.ns
  have hnot : ¬ ownOf env.locals e it a := by
    rintro (rfl | rfl | rfl)
    · rw [hl] at hno; cases hno
    · rw [he] at hno; cases hno
    · rw [hi] at hno; cases hno
  refine ⟨a, p, y, ob, hits, rfl, ?_, hnot, hob, hio, kp0.trans (kp.weak fun b q => .inl q), w.bare, ol1, oe, oi, hl1, he1, hi1, fun s'' a1 a2 a3 w'' => hk s'' (fun o h => by rw [hl1] at h; cases h; exact a1) (fun o h => by rw [he1] at h; cases h; exact a2) (fun o h => by rw [hi1] at h; cases h; exact a3) w''⟩
  cases q : s₀.heap.get? a with
  | none => rfl
  | some z => rw [kp0.heap a z hnot q] at hno; cases hno
theorem Fm.again {vars : List (Option V)} {s1 s'' : Shared} (f : Fm F env vars Pe H0 s1) (h : ∀ o, s1.heap.get? env.locals = some o → s''.heap.get? env.locals = some o) : Fm F env vars Pe H0 s'' := f.mono (fun o e => h o e) (fun _ => rfl) fun _ => rfl
theorem Fm.there {vars : List (Option V)} {s1 : Shared} (f : Fm F env vars Pe H0 s1) : ∃ ol, s1.heap.get? env.locals = some ol := let ⟨_, ⟨ol, _, _, h, _⟩, _⟩ := f.ns; ⟨ol, h⟩
include G in
theorem gen_tail {own : Addr → Prop} {ch p : Option V} {s₀ s : Shared} {n : Nat} {Y : Protocol} (hn : n = 1) (ho : own env.locals)
    (hr : Room k (A.over (.func gb env) [])) (hL : B.obj env.locals = none) (f : Fm F env [some (.str x), p, some (.bool false), ch] Pe H0 s) (w : Wd B s) (kp : Kp own s₀ s) :
    Seg B.M A (genR own) Y n s₀ (.func gb env) ((execs [.If t3 [.Expr (.Yield (some e3) y8) y9] [] y10] env).wrap retK (retH env) id id) [] s := by
  refine seg_execs_cons (seg_If (noE (run_test (G.t3 p false ch) hr f w hL) ?_))
  rintro b s1 ⟨H1, ⟨kp1, w1, nw1, f1⟩, rfl⟩
  refine ⟨fun hb => (nomatch hb), fun _ => ?_⟩
  exact gen_end hn (kp.trans (kp1.weak fun b q => q ▸ ho)) w1
end
end Mine
end
noncomputable section
open PySem PySem.W PyProof.Rows
open Sem (wp)
namespace Mine
section
variable {B : Base} {k : Nat} {F : FI} {x n1 n2 fnm anm : Str} {ts : List PySem.Expr} {t1 e1 : PySem.Expr} {s5 : Stmt} {t2 : PySem.Expr} {s6 : Stmt} {e2 t3 e3 : PySem.Expr}
variable (G : GSpec B k F x n1 n2 fnm anm ts t1 e1 s5 t2 s6 e2 t3)
variable {A : Around} {env : Env} {its : List (Int × Str)} {e it : Addr} {gb : List Stmt} {y1 y2 y3 y4 y5 y6 y8 y9 y10 p q7 : Pos} {zk : Nat}
theorem at_end {α : Type} (pre l : List α) (y : α) {m : Nat} (h : m = l.length + 1) : (pre ++ y :: l)[(pre ++ y :: l).length - m]? = some y := by
  subst h
  have : (pre ++ y :: l).length - (l.length + 1) = pre.length := by simp
  rw [this]; simp
abbrev gBody (t1 e1 : PySem.Expr) (s5 : Stmt) (t2 : PySem.Expr) (s6 : Stmt) (e2 : PySem.Expr) (y1 y2 y3 y4 y5 y6 : Pos) : List Stmt := [.If t1 [.Expr (.Yield (some e1) y1) y2, s5] [.If t2 [s6] [.Expr (.Yield (some e2) y3) y4] y5] y6]
abbrev gTail (t3 e3 : PySem.Expr) (y8 y9 y10 : Pos) : List Stmt := [.If t3 [.Expr (.Yield (some e3) y8) y9] [] y10]
def gK (env : Env) (t3 e3 : PySem.Expr) (y8 y9 y10 : Pos) : Flow → Sem Fin := fun f => match f with
  | .next => (execs (gTail t3 e3 y8 y9 y10) env).wrap retK (retH env) id id
  | f => retK f
include G in
theorem gen_loop {St : Nat → Heap → Prop} {Mid : Nat → Addr → Heap → Prop}
    (W : ∀ A : Around, A.handled = none → WalksT B.prog B.w A e [e, it] [e, it] x.cps.size (fun i vals => ∃ t' y, (∃ c u, x.cps[i]? = some c ∧ y = .str ⟨#[c]⟩ u) ∧ vals = #[.int i t', y]) St Mid)
    (alive : ∀ i h, St i h → ∃ oe oi, h.get? e = some oe ∧ h.get? it = some oi)
    (hA : Room (k + 1) A) (hL : B.obj env.locals = none) (heB : B.obj e = none) (hiB : B.obj it = none) (hel : e ≠ env.locals) (hil : it ≠ env.locals) :
    ∀ (rest : List Nat) (i : Nat) (esc : Bool) (pv ch : Option V) (n : Nat) (s₀ s : Shared) (pre : List (Int × Str)), x.cps.toList.drop i = rest → i ≤ x.cps.size → left esc rest = false → its = pre ++ escs i esc rest → n = (escs i esc rest).length + 1 →
      Fm F env [some (.str x), pv, some (.bool esc), ch] Pe H0 s → Wd B s → Kp (ownOf env.locals e it) s₀ s → St i s.heap →
      Seg B.M A (genR (ownOf env.locals e it)) (genY B its env.locals e it) n s₀ (.forLoop (.Tuple ts zk q7) (.ref e) (gBody t1 e1 s5 t2 s6 e2 y1 y2 y3 y4 y5 y6) [] env) (B.M.den (.forLoop (.Tuple ts zk q7) (.ref e) (gBody t1 e1 s5 t2 s6 e2 y1 y2 y3 y4 y5 y6) [] env))
        [.ret (loopK env (gK env t3 e3 y8 y9 y10) (retH env) id id) none false [] (.func gb env) p []] s := by
  intro rest
  have key : ∀ s h' tk, Wd B s → (∀ b o, b ∉ [e, it] → s.heap.get? b = some o → h'.get? b = some o) → Kp (ownOf env.locals e it) s { s with heap := h', toks := tk } ∧ Wd B { s with heap := h', toks := tk } := fun s h' tk w hk =>
    ⟨⟨fun b o nb eb => hk b o (fun hm => nb (by rcases List.mem_cons.mp hm with rfl | hm; exact .inr (.inl rfl); exact .inr (.inr (List.mem_singleton.mp hm)))) eb, fun _ _ h => h, rfl⟩,
     ⟨fun a o ho => hk a o (fun hm => by
      rcases List.mem_cons.mp hm with rfl | hm
      · rw [heB] at ho; cases ho
      · rw [List.mem_singleton.mp hm, hiB] at ho; cases ho) (w.base a o ho), w.bare⟩⟩
  induction rest with
  | nil =>
    intro i esc pv ch n s₀ s pre hd hi hle hpre hn f w kp st
    have hr : Room k (A.over (.forLoop (.Tuple ts zk q7) (.ref e) (gBody t1 e1 s5 t2 s6 e2 y1 y2 y3 y4 y5 y6) [] env) [.ret (loopK env (gK env t3 e3 y8 y9 y10) (retH env) id id) none false [] (.func gb env) p []]) := Room.loop hA rfl rfl (Nat.le_of_ble_eq_true rfl) gb env
    have hisz : i = x.cps.size := by
      have := List.drop_eq_nil_iff.mp hd
      simp at this; omega
    subst hisz
    have hesc : esc = false := by cases esc <;> first | rfl | cases hle
    subst hesc
    refine seg_forLoop ((W _ hr.1).done s _ _ st fun h' tk hk => ?_)
    obtain ⟨kp1, w1⟩ := key s h' tk w hk
    refine seg_leaf (.ok .next) ?_
    have f' : Fm F env [some (.str x), pv, some (.bool false), ch] Pe H0 { s with heap := h', toks := tk } := f.again fun o ho => hk _ o (by simp [Ne.symm hel, Ne.symm hil]) ho
    rw [loopK_ok]
    exact gen_tail G (own := ownOf env.locals e it) hn (.inl rfl) (hA.func gb env) hL f' w1 (kp.trans kp1)
  | cons c r ih =>
    intro i esc pv ch n s₀ s pre hd hi hle hpre hn f w kp st
    have hr : Room k (A.over (.forLoop (.Tuple ts zk q7) (.ref e) (gBody t1 e1 s5 t2 s6 e2 y1 y2 y3 y4 y5 y6) [] env) [.ret (loopK env (gK env t3 e3 y8 y9 y10) (retH env) id id) none false [] (.func gb env) p []]) := Room.loop hA rfl rfl (Nat.le_of_ble_eq_true rfl) gb env
    have hlt : i < x.cps.size := by
      rcases Nat.lt_or_ge i x.cps.size with h | h
      · exact h
      · rw [List.drop_of_length_le (by simpa using h)] at hd; cases hd
    have hc : x.cps[i]? = some c := by
      have : x.cps.toList[i]? = some c := by
        have e := congrArg (·[0]?) hd
        simpa using e
      simpa using this
    have hd' : x.cps.toList.drop (i + 1) = r := by
      have : (x.cps.toList.drop i).drop 1 = r := by rw [hd]; rfl
      rwa [List.drop_drop] at this
    refine seg_forLoop ((W _ hr.1).item i s _ _ hlt st fun T vals h1 tk hv hT htup hmid hk1 => ?_)
    obtain ⟨t', y, ⟨c', u, hc', rfl⟩, rfl⟩ := hv
    rw [hc] at hc'; cases hc'
    obtain ⟨kp1, w1⟩ := key s h1 tk w hk1
    have f1 : Fm F env [some (.str x), pv, some (.bool esc), ch] Pe H0 { s with heap := h1, toks := tk } := f.again fun o ho => hk1 _ o (by simp [Ne.symm hel, Ne.symm hil]) ho
    refine (W _ hr.1).go ts zk q7 i T _ _ _ hmid fun h2 st2 hk2 => ?_
    obtain ⟨kp2, w2⟩ := key _ h2 tk w1 hk2
    have f2 : Fm F env [some (.str x), pv, some (.bool esc), ch] Pe H0 { s with heap := h2, toks := tk } := f1.again fun o ho => hk2 _ o (by simp [Ne.symm hel, Ne.symm hil]) ho
    have htup2 : h2.IsTuple T #[.int i t', .str ⟨#[c]⟩ u] := by
      obtain ⟨o, ho, rest⟩ := htup
      exact ⟨o, hk2 T o ((W _ hr.1).apart i T h1 hmid) ho, rest⟩
    refine wpAny_assign_Tuple hr.1 htup2 (by rw [(G.tn env).1]; rfl) (G.tn env).2 fun h3 hx3 => ?_
    have hk3 : ∀ b o, h2.get? b = some o → h3.get? b = some o := fun b o q => hx3 b o (Nat.ne_of_lt (Heap.lt_size q)) q
    have f3 : Fm F env [some (.str x), pv, some (.bool esc), ch] Pe H0 { s with heap := h3, toks := tk } := f2.again fun o ho => hk3 _ o ho
    have w3 : Wd B { s with heap := h3, toks := tk } := ⟨fun a o ho => hk3 a o (w2.base a o ho), w2.bare⟩
    have st3 : St (i + 1) h3 := (W _ hr.1).frame _ _ _ st2 fun b _ o q => hk3 b o q
    have kp3 : Kp (ownOf env.locals e it) s₀ { s with heap := h3, toks := tk } := kp.trans (kp1.trans (kp2.trans ⟨fun b o _ q => hk3 b o q, fun _ _ h => h, rfl⟩))
    refine noE (run_targets (G.tg pv (some (.bool esc)) ch i ⟨#[c]⟩) (.cons (.int _ t') (.cons (.str _ u) .nil)) hr f3 w3 hL) ?_
    rintro _ s4 ⟨v4, H4, ⟨kp4, w4, _, f4⟩, rfl⟩
    have lift : ∀ {s s' : Shared}, Kp (fun b => b = env.locals) s s' → Kp (ownOf env.locals e it) s s' := fun k => k.weak fun b q => .inl q
    have stL : ∀ {j : Nat} {s s' : Shared}, Kp (fun b => b = env.locals) s s' → St j s.heap → St j s'.heap := fun k st => (W _ hr.1).frame _ _ _ st fun b hb o q => k.heap b o (by
      rcases List.mem_cons.mp hb with rfl | hb
      · exact hel
      · rw [List.mem_singleton.mp hb]; exact hil) q
    have st4 := stL kp4 st3
    have kp40 := kp3.trans (lift kp4)
    -- behind a turn
    have onward : ∀ (esc' : Bool) (s₁ s' : Shared) (ch' : Option V) (pre' : List (Int × Str)) (n' : Nat), left esc' r = false → its = pre' ++ escs (i + 1) esc' r → n' = (escs (i + 1) esc' r).length + 1 → Fm F env [some (.str x), some (.int i), some (.bool esc'), ch'] Pe H0 s' → Wd B s' → Kp (ownOf env.locals e it) s₁ s' → St (i + 1) s'.heap →
        Seg B.M A (genR (ownOf env.locals e it)) (genY B its env.locals e it) n' s₁ (.forLoop (.Tuple ts zk q7) (.ref e) (gBody t1 e1 s5 t2 s6 e2 y1 y2 y3 y4 y5 y6) [] env) (.pure (.again (.forLoop (.Tuple ts zk q7) (.ref e) (gBody t1 e1 s5 t2 s6 e2 y1 y2 y3 y4 y5 y6) [] env)))
          [.ret (loopK env (gK env t3 e3 y8 y9 y10) (retH env) id id) none false [] (.func gb env) p []] s' := fun esc' s₁ s' ch' pre' n' a1 a2 a3 a4 a5 a6 a7 =>
      seg_again rfl (ih (i + 1) esc' _ ch' n' s₁ s' pre' hd' hlt a1 a2 a3 a4 a5 a6 a7)
    refine seg_execs_cons (seg_If (noE (run_test (G.t1 (some (.int i)) esc (some (.str ⟨#[c]⟩))) hr f4 w4 hL) ?_))
    rintro b s5 ⟨H5, ⟨kp5, w5, _, f5⟩, rfl⟩
    have st5 := stL kp5 st4
    have kp50 := kp40.trans (lift kp5)
    refine ⟨fun hb => ?_, fun hb => ?_⟩
    · subst hb
      have hlen : n = (escs (i + 1) false r).length + 1 + 1 := by rw [hn]; rfl
      subst hlen
      refine seg_execs_cons ?_
      refine seg_Expr_Yield rfl rfl rfl (wpAny_mono (run_expr (G.e1 i true c) hr f5 w5 hL) ?_ fun _ _ q => q.elim) f5.coro (by unfold interactive; rw [f5.fn]; rfl)
      rintro v s6 ⟨vv, H6, iv, ⟨kp6, w6, nw6, f6⟩, a, rfl, ha⟩ kap hkap
      have st6 := stL kp6 st5
      obtain ⟨oe, oi, he5, hi5⟩ := alive _ _ st5
      refine gen_yield (F := F) ?_ iv ha kp50 kp6 w6 nw6 f6 ⟨oe, he5⟩ ⟨oi, hi5⟩ hel hil f5.there fun s'' a1 a2 a3 w'' => hkap .none s'' ?_
      · rw [hpre]
        exact at_end pre (escs (i + 1) false r) _ rfl
      have st7 : St (i + 1) s''.heap := (W _ hr.1).frame _ _ _ st6 fun b hb o q => by
        rcases List.mem_cons.mp hb with rfl | hb
        · exact a2 o q
        · rw [List.mem_singleton.mp hb] at q ⊢; exact a3 o q
      have f7 := f6.again a1
      refine seg_execs_cons (seg_stmt (noE (run_stmt (G.s5 (some (.int i)) (some (.bool true)) (some (.str ⟨#[c]⟩))) hr f7 w'' hL) ?_))
      rintro fl s8 ⟨g, v8, H8, ifl, ⟨kp8, w8, _, f8⟩, rfl, rfl⟩
      cases ifl
      exact onward false s'' s8 _ (pre ++ [((i : Int), ⟨#[92, c]⟩)]) _ hle (by rw [hpre]; simp [escs]) rfl f8 w8 (lift kp8) (stL kp8 st7)
    · subst hb
      refine seg_execs_cons (seg_If (noE (run_test (G.t2 (some (.int i)) (some (.bool false)) c) hr f5 w5 hL) ?_))
      rintro b s6 ⟨H6, ⟨kp6, w6, _, f6⟩, rfl⟩
      have st6 := stL kp6 st5
      have kp60 := kp50.trans (lift kp6)
      refine ⟨fun hb => ?_, fun hb => ?_⟩
      · have h92 : c = 92 := of_decide_eq_true hb
        refine seg_execs_cons (seg_stmt (noE (run_stmt (G.s6 (some (.int i)) (some (.bool false)) (some (.str ⟨#[c]⟩))) hr f6 w6 hL) ?_))
        rintro fl s8 ⟨g, v8, H8, ifl, ⟨kp8, w8, _, f8⟩, rfl, rfl⟩
        cases ifl
        have hes : escs i false (c :: r) = escs (i + 1) true r := by rw [escs, if_pos h92]
        have hle' : left true r = false := by rw [left, hb] at hle; exact hle
        exact onward true s₀ s8 _ pre n hle' (by rw [hpre, hes]) (by rw [hn, hes]) f8 w8 (kp60.trans (lift kp8)) (stL kp8 st6)
      · have h92 : ¬ c = 92 := of_decide_eq_false hb
        have hes : escs i false (c :: r) = ((i : Int), ⟨#[c]⟩) :: escs (i + 1) false r := by rw [escs, if_neg h92]
        have hle' : left false r = false := by rw [left, hb] at hle; exact hle
        have hlen : n = (escs (i + 1) false r).length + 1 + 1 := by rw [hn, hes]; rfl
        subst hlen
        refine seg_execs_cons ?_
        refine seg_Expr_Yield rfl rfl rfl (wpAny_mono (run_expr (G.e2 i false c) hr f6 w6 hL) ?_ fun _ _ q => q.elim) f6.coro (by unfold interactive; rw [f6.fn]; rfl)
        rintro v s7 ⟨vv, H7, iv, ⟨kp7, w7, nw7, f7⟩, a, rfl, ha⟩ kap hkap
        have st7 := stL kp7 st6
        obtain ⟨oe, oi, he6, hi6⟩ := alive _ _ st6
        refine gen_yield (F := F) ?_ iv ha kp60 kp7 w7 nw7 f7 ⟨oe, he6⟩ ⟨oi, hi6⟩ hel hil f6.there fun s'' a1 a2 a3 w'' => hkap .none s'' ?_
        · rw [hpre, hes]
          exact at_end pre (escs (i + 1) false r) _ rfl
        have st8 : St (i + 1) s''.heap := (W _ hr.1).frame _ _ _ st7 fun b hb o q => by
          rcases List.mem_cons.mp hb with rfl | hb
          · exact a2 o q
          · rw [List.mem_singleton.mp hb] at q ⊢; exact a3 o q
        exact onward false s'' s'' _ (pre ++ [((i : Int), ⟨#[c]⟩)]) _ hle' (by rw [hpre, hes]; simp) rfl (f7.again a1) w'' (Kp.refl _ _) st8
end
end Mine
end
noncomputable section
open PySem PySem.W PyProof.Rows
open Sem (wp)
namespace Mine
section
variable {prog : Program} {w : World} {A : Around} {E : Value → Shared → Prop} {s : Shared}
/-- a generator's next -/
theorem next_gen {a : Addr} {g n : Nat} {gs : GenState} {own : Addr → Prop} {Y : Protocol} {Q : Option Value → Shared → Prop} (hh : A.handled = none) (hl : s.heap.NoLimit) (hd : A.depth < recursionLimit) (hg : s.heap.IsGen a g) (hs : s.gens[g]? = some gs)
    (go : gs.Goes (model prog w) A.in1 (genR own) Y n (.send .none) (s.setGen g .running))
    (out : ∀ v s₁ gs', gs'.bare = true → Y (n - 1) (s.setGen g .running) v s₁ (fun r' s'' => match n with | 0 => False | m + 1 => gs'.Goes (model prog w) A.in1 (genR own) Y m r' s'') → Q (some v) (s₁.setGen g gs'))
    (fin : ∀ s₁, genP own n (s.setGen g .running) s₁ → ∀ h', (∀ b o, s₁.heap.get? b = some o → h'.get? b = some o) → Q none { s₁.setGen g .finished with heap := h' }) :
    wpAny (model prog w) A (pyNext (.ref a)) Q E s := by
  have wake : wpAny (model prog w) A.in1 (Builtin.Generator.genWake (.ref a) (.send .none)) (fun f s' => ∃ v, f = .done (.ret v) ∧ Q (some v) s') (fun x s' => ∃ e, x = .ref e ∧ (∃ o, s'.heap.get? e = some o ∧ o.cls = .type "StopIteration") ∧ Q none s') s := by
    unfold Builtin.Generator.genWake
    refine wpAny_bind (wpAny_holding (wpAny_genNumber hg (wpAny_bind (wpAny_genState hs ?_))))
    have stop : ∀ (jp : PUnit → Sem Fin) s₁, genP own n (s.setGen g .running) s₁ → wpAny (model prog w) A.in1 (newExc (.type "StopIteration") [] >>= fun x => (raiseNew x : Sem PUnit) >>= jp) (fun f s' => ∃ v, f = .done (.ret v) ∧ Q (some v) s')
        (fun x s' => ∃ e, x = .ref e ∧ (∃ o, s'.heap.get? e = some o ∧ o.cls = .type "StopIteration") ∧ Q none s') (s₁.setGen g .finished) := fun jp s₁ hp => by
      simp only [newExc, newTuple]
      refine wpAny_bind (wpAny_bind ?_)
      refine wpAny_newObj_type ?_ (by size_fits)
      refine wpAny_bind (m := firstArgMember _ _) (wpAny_of_eq (a := Value.none) (by first | rfl | (simp only [firstArgMember]; rfl)) ?_)
      refine wpAny_newObj_type ?_ (by size_fits)
      simp only [raiseNew]
      refine wpAny_bind (wpAny_bind (wpAny_handled ?_))
      rw [show A.in1.handled = none from hh]
      exact wpAny_throw ⟨_, rfl, ⟨_, Heap.get?_push_size _ rfl, rfl⟩, fin s₁ hp _ fun b o hb => Heap.get?_push_of_some _ (Heap.get?_push_of_some _ hb)⟩
    have woken : ∀ {k : GenResult → Sem Fin}, (∃ jp, k (.returned .none) = (newExc (.type "StopIteration") [] >>= fun x => (raiseNew x : Sem PUnit) >>= jp)) → (∀ v, k (.yielded v) = ret v) →
        wpAny (model prog w) A.in1 (roomToWake >>= fun _ => .resume g (.send .none) [] k) (fun f s' => ∃ v, f = .done (.ret v) ∧ Q (some v) s') (fun x s' => ∃ e, x = .ref e ∧ (∃ o, s'.heap.get? e = some o ∧ o.cls = .type "StopIteration") ∧ Q none s') s := fun k1 k2 => by
      refine wpAny_bind (wpAny_roomToWake hl hd (wpAny_resumeQ hs go (fun x s₁ hx => ?_) fun v s₁ gs' hb hv => ?_))
      · obtain ⟨rfl, hp⟩ := hx
        obtain ⟨jp, k1⟩ := k1
        have := stop jp s₁ hp
        rw [← k1] at this
        exact this
      · rw [k2]
        exact wpAny_pure ⟨v, rfl, out v s₁ gs' hb hv⟩
    cases gs with
    | running => exact go.elim
    | finished => exact go.elim
    | fresh c => exact woken ⟨_, rfl⟩ fun _ => rfl
    | suspended k₀ l₀ c₀ p₀ fs₀ cl => exact woken ⟨_, rfl⟩ fun _ => rfl
  unfold pyNext
  refine wpAny_bind (wpAny_attempt (wpAny_callSpecial?_slot (name := Str.ofString "__next__") hg.typeIs slot_gen_next
    (wpAny_call_entry slot_gen_next hg.typeIs entry_gen_next ?_ (args_gen_next _))))
  refine wpAny_mono wake ?_ ?_
  · rintro f s' ⟨v, rfl, hq⟩
    exact ⟨v, rfl, wpAny_pure hq⟩
  · rintro x s' ⟨e, rfl, ⟨o, ho, hc⟩, hq⟩
    refine wpAny_bind (wpAny_isInstance (T := "StopIteration") (b := true) ⟨o, ho, hc⟩ isSubtype_stop ?_)
    exact wpAny_pure hq
end
end Mine
end
noncomputable section
open PySem PySem.W PyProof.Rows
open Sem (wp)
namespace Mine
/-- a generator that has handed out i of its things -/
def gnJ (B : Base) (A : Around) (its : List (Int × Str)) (a : Addr) (g : Nat) (L : Addr) (i : Nat) (f : Foot) : Prop :=
  ∃ gs og, f.gen = (fun j => if j = g then some gs else none) ∧ f.obj a = some og ∧ (∃ nm qn, og.cls = .type "generator" ∧ og.data = .fields #[.int g 0, nm, qn] ∧ og.slots = #[]) ∧ a ≠ L ∧ gs.bare = true ∧
    ∀ s, (∀ b o, f.obj b = some o → s.heap.get? b = some o) → Wd B s → ∃ e it, (∀ b, ownOf L e it b → b ≠ a ∧ (f.obj b ≠ none ∨ s.heap.get? b = none)) ∧
      gs.Goes B.M A.in1 (genR (ownOf L e it)) (genY B its L e it) (its.length - i + 1) (.send .none) s
theorem setGen_same {s : Shared} {g : Nat} {x : GenState} (h : g < s.gens.size) : (s.setGen g x).gens[g]? = some x := by
  show (s.gens.setIfInBounds g x)[g]? = some x
  simp [h]
theorem setGen_other {s : Shared} {g j : Nat} {x : GenState} (h : j ≠ g) : (s.setGen g x).gens[j]? = s.gens[j]? := by
  show (s.gens.setIfInBounds g x)[j]? = s.gens[j]?
  rw [Array.getElem?_setIfInBounds, if_neg (Ne.symm h)]
theorem setGen_bare {s : Shared} {g : Nat} {x : GenState} (h : AllBare s.gens) (hx : x.bare = true) : AllBare (s.setGen g x).gens := by
  intro y hy
  have hy' : y ∈ s.gens.setIfInBounds g x := hy
  obtain ⟨i, hi, rfl⟩ := Array.mem_iff_getElem.mp hy'
  have hi' : i < s.gens.size := by simpa using hi
  rw [Array.getElem_setIfInBounds hi']
  split
  · exact hx
  · exact h _ (Array.getElem_mem hi')
theorem iter_gen {B : Base} {k : Nat} {A : Around} {its : List (Int × Str)} {a : Addr} {g : Nat} {L : Addr} :
    Iter B k A (.ref a) its.length (gnJ B A its a g L) (fun _ => True) (fun i H v H' => ∃ t p y, its[i]? = some (p, y) ∧ v = .ref t ∧ H t = none ∧ H' = put H t (.tup [.int p, .str y])) where
  next := by
    rintro i f P H s hi ⟨gs, og, hfg, hfa, ⟨nm, qn, hc, hd, hsl⟩, haL, hb, hgo⟩ ib d r o _
    have hg : f.gen g = some gs := by rw [hfg]; exact if_pos rfl
    have hsg : s.gens[g]? = some gs := o.gens g gs (by show (f.gen g).or _ = _; rw [hg]; rfl)
    have hgz : g < s.gens.size := (Array.getElem?_eq_some_iff.mp hsg).1
    have w : Wd B (s.setGen g .running) := ⟨fun b x q => (ib.with d).heap o b x q, setGen_bare o.bare rfl⟩
    obtain ⟨e, it, hown, go⟩ := hgo (s.setGen g .running) (fun b x q => o.foot q) w
    refine next_gen r.1 (B.limit _ fun b x q => (ib.with d).heap o b x q) r.depth ⟨og, nm, qn, o.foot hfa, hc, hd, hsl⟩ hsg go (fun v s₁ gs' hb' hY => ?_) (fun s₁ hP => ?_)
    · have hm : its.length - i + 1 - 1 = its.length - i := rfl
      obtain ⟨t, p, y, ob, hit, rfl, ht0, htown, ht1, hio, kp, hbare, ol, oe, oi, hl1, he1, hi1, hkap⟩ := hY
      have hii : its.length - (its.length - i) = i := by omega
      rw [hm, hii] at hit
      have hta : s.heap.get? t = none := ht0
      -- what is not its own is kept
      have hP : ∀ b x, P.obj b = some x → ¬ ownOf L e it b := fun b x q ho => by
        rcases (hown b ho).2 with z | z
        · cases zz : f.obj b with
          | none => exact z zz
          | some y => rw [d.obj b y zz] at q; cases q
        · rw [show (s.setGen g .running).heap = s.heap from rfl, (o.drop d).prot b x q] at z; cases z
      have hH : ∀ b x, H b = some x → ¬ ownOf L e it b := fun b x q ho => by
        rcases (hown b ho).2 with z | z
        · cases zz : f.obj b with
          | none => exact z zz
          | some y => rw [o.footH zz] at q; cases q
        · obtain ⟨ob, h1, _⟩ := o.objs b x q
          rw [show (s.setGen g .running).heap = s.heap from rfl, h1] at z; cases z
      have haown : ¬ ownOf L e it a := fun ho => (hown a ho).1 rfl
      have ha1 : s₁.heap.get? a = some og := kp.heap a og haown (o.foot hfa)
      have hna : ∀ b x, s.heap.get? b = some x → b ≠ t := by rintro b x q rfl; rw [q] at hta; cases hta
      have hat : a ≠ t := hna a og (o.foot hfa)
      have hgz1 : g < s₁.gens.size := by
        have := kp.gens g .running (setGen_same hgz)
        exact (Array.getElem?_eq_some_iff.mp this).1
      let f' : Foot := { obj := fun b => if b = a then some og else if b = L then some ol else if b = e then some oe else if b = it then some oi else none, gen := fun j => if j = g then some gs' else none }
      have hf' : ∀ b x, f'.obj b = some x → (b = a ∧ x = og) ∨ (ownOf L e it b ∧ s₁.heap.get? b = some x) := fun b x q => by
        have q' : (if b = a then some og else if b = L then some ol else if b = e then some oe else if b = it then some oi else none) = some x := q
        split at q'
        · exact .inl ⟨‹_›, (Option.some.inj q').symm⟩
        · split at q'
          · subst_vars; cases q'; exact .inr ⟨.inl rfl, hl1⟩
          · split at q'
            · subst_vars; cases q'; exact .inr ⟨.inr (.inl rfl), he1⟩
            · split at q'
              · subst_vars; cases q'; exact .inr ⟨.inr (.inr rfl), hi1⟩
              · cases q'
      have hfL : f'.obj L = some ol := by show (if L = a then _ else _) = _; rw [if_neg (Ne.symm haL), if_pos rfl]
      have hfe : f'.obj e = some oe := by
        show (if e = a then some og else if e = L then some ol else if e = e then some oe else _) = _
        rw [if_neg (hown e (.inr (.inl rfl))).1]
        by_cases q : e = L
        · rw [if_pos q, ← hl1, ← q, he1]
        · rw [if_neg q, if_pos rfl]
      have hfi : f'.obj it = some oi := by
        show (if it = a then some og else if it = L then some ol else if it = e then some oe else if it = it then some oi else _) = _
        rw [if_neg (hown it (.inr (.inr rfl))).1]
        by_cases q : it = L
        · rw [if_pos q, ← hl1, ← q, hi1]
        · rw [if_neg q]
          by_cases q : it = e
          · rw [if_pos q, ← he1, ← q, hi1]
          · rw [if_neg q, if_pos rfl]
      have d' : Dis P f' := ⟨fun b x q => by
          rcases hf' b x q with ⟨rfl, _⟩ | ⟨ho, _⟩
          · exact d.obj _ _ hfa
          · cases z : P.obj b with
            | none => rfl
            | some y => exact absurd ho (hP b y z), fun j y q => by
          have q' : (if j = g then some gs' else none) = some y := q
          split at q'
          · subst_vars; exact d.gen _ _ hg
          · cases q'⟩
      have o' : Ok (P.with f') (put H t (.tup [.int p, .str y])) (s₁.setGen g gs') := by
        refine ⟨fun b x q => ?_, fun b x q => ?_, fun b x q => ?_, fun j x q => ?_, setGen_bare hbare hb', ?_⟩
        · have q' : (f'.obj b).or (P.obj b) = some x := q
          cases z : f'.obj b with
          | none =>
            rw [z, Option.none_or] at q'
            exact kp.heap b x (hP b x q') ((o.drop d).prot b x q')
          | some y =>
            rw [z] at q'; cases q'
            rcases hf' b _ z with ⟨rfl, rfl⟩ | ⟨_, h⟩
            · exact ha1
            · exact h
        · by_cases hbt : b = t
          · subst hbt; rw [put_self] at q; cases q; exact ⟨ob, ht1, hio⟩
          · rw [put_ne _ _ hbt] at q
            obtain ⟨ob, h1, h2⟩ := o.objs b x q
            exact ⟨ob, kp.heap b ob (hH b x q) h1, h2⟩
        · have q' : (f'.obj b).or (P.obj b) = some x := q
          cases z : f'.obj b with
          | none =>
            rw [z, Option.none_or] at q'
            rw [put_ne _ _ (hna b x ((o.drop d).prot b x q'))]
            exact (o.drop d).dis b x q'
          | some y =>
            have hbt : b ≠ t := by
              rcases hf' b _ z with ⟨rfl, rfl⟩ | ⟨h, _⟩
              · exact hat
              · rintro rfl; exact htown h
            rw [put_ne _ _ hbt]
            cases zz : H b with
            | none => rfl
            | some w =>
              rcases hf' b _ z with ⟨rfl, rfl⟩ | ⟨h, _⟩
              · rw [o.footH hfa] at zz; cases zz
              · exact absurd h (hH b w zz)
        · have q' : (if j = g then some gs' else none).or (P.gen j) = some x := q
          by_cases hj : j = g
          · rw [if_pos hj] at q'; cases q'; subst hj; exact setGen_same hgz1
          · rw [if_neg hj, Option.none_or] at q'
            rw [setGen_other hj]
            exact kp.gens j x (by rw [setGen_other hj]; exact (o.drop d).gens j x q')
        · exact kp.os.trans o.os
      refine ⟨.ref t, .ref t, f', _, rfl, .ref t, ⟨gs', og, rfl, if_pos rfl, ⟨nm, qn, hc, hd, hsl⟩, haL, hb', fun s'' hobj w'' => ⟨e, it, fun b ho => ⟨(hown b ho).1, .inl ?_⟩, ?_⟩⟩, d', o', t, p, y, hit, rfl, ?_, rfl⟩
      · rcases ho with rfl | rfl | rfl
        · rw [hfL]; exact fun h => nomatch h
        · rw [hfe]; exact fun h => nomatch h
        · rw [hfi]; exact fun h => nomatch h
      · have := hkap s'' (hobj L _ hfL) (hobj e _ hfe) (hobj it _ hfi) w''
        have e2 : its.length - (i + 1) + 1 = its.length - i := by omega
        rw [e2]
        exact this
      · cases z : H t with
        | none => rfl
        | some x => obtain ⟨ob, h1, _⟩ := o.objs t x z; rw [hta] at h1; cases h1
    · intro h' hk
      obtain ⟨h1, _⟩ := hP
      omega
  done := by
    rintro f P H s ⟨gs, og, hfg, hfa, ⟨nm, qn, hc, hd, hsl⟩, haL, hb, hgo⟩ ib d r o _
    have hg : f.gen g = some gs := by rw [hfg]; exact if_pos rfl
    have hsg : s.gens[g]? = some gs := o.gens g gs (by show (f.gen g).or _ = _; rw [hg]; rfl)
    have hgz : g < s.gens.size := (Array.getElem?_eq_some_iff.mp hsg).1
    have w : Wd B (s.setGen g .running) := ⟨fun b x q => (ib.with d).heap o b x q, setGen_bare o.bare rfl⟩
    obtain ⟨e, it, hown, go⟩ := hgo (s.setGen g .running) (fun b x q => o.foot q) w
    refine next_gen r.1 (B.limit _ fun b x q => (ib.with d).heap o b x q) r.depth ⟨og, nm, qn, o.foot hfa, hc, hd, hsl⟩ hsg go (fun v s₁ gs' hb' hY => ?_) (fun s₁ hP h' hk => ?_)
    · obtain ⟨t, p, y, ob, hit, _⟩ := hY
      have hm : its.length - (its.length - its.length + 1 - 1) = its.length := by omega
      rw [hm, List.getElem?_eq_none (Nat.le_refl _)] at hit
      cases hit
    · obtain ⟨_, kp, hbare⟩ := hP
      refine ⟨rfl, fun b x q => hk b x (kp.heap b x (fun ho => ?_) ((o.drop d).prot b x q)), fun b x q => ?_, (o.drop d).dis, fun j x q => ?_, setGen_bare hbare rfl, kp.os.trans o.os⟩
      · rcases (hown b ho).2 with z | z
        · cases zz : f.obj b with
          | none => exact z zz
          | some y => rw [d.obj b y zz] at q; cases q
        · rw [show (s.setGen g .running).heap = s.heap from rfl, (o.drop d).prot b x q] at z; cases z
      · obtain ⟨ob, h1, h2⟩ := o.objs b x q
        refine ⟨ob, hk b ob (kp.heap b ob (fun ho => ?_) h1), h2⟩
        rcases (hown b ho).2 with z | z
        · cases zz : f.obj b with
          | none => exact z zz
          | some y => rw [o.footH zz] at q; cases q
        · rw [show (s.setGen g .running).heap = s.heap from rfl, h1] at z; cases z
      · have hj : j ≠ g := by rintro rfl; rw [d.gen _ _ hg] at q; cases q
        show (s₁.setGen g .finished).gens[j]? = some x
        rw [setGen_other hj]
        exact kp.gens j x (by rw [setGen_other hj]; exact (o.drop d).gens j x q)
  quiet := by
    rintro i f P H s t v ⟨gs, og, hfg, hfa, ⟨nm, qn, hc, hd, hsl⟩, haL, hb, hgo⟩ o
    exact quiet_of (o.foot hfa) hc (by decide) t v
end Mine
end
noncomputable section
open PySem PySem.W PyProof.Rows
open Sem (wp)
namespace Mine
/-- the shape -/
abbrev gAll (n1 n2 fnm anm : Str) (ts : List PySem.Expr) (t1 e1 : PySem.Expr) (s5 : Stmt) (t2 : PySem.Expr) (s6 : Stmt) (e2 t3 e3 : PySem.Expr) (z1 z2 zk : Nat) (c1 c2 c3 c4 c5 c6 c7 c8 c9 cA cB y1 y2 y3 y4 y5 y6 y8 y9 y10 : Pos) : List Stmt :=
  [.Assign [.Name n1 c1] (.Constant (.int 0) z1 c2) c3, .Assign [.Name n2 c4] (.Constant (.bool false) z2 c5) c6, .For (.Tuple ts zk c7) (.Call (.Name fnm c8) [.Name anm c9] [] cA) (gBody t1 e1 s5 t2 s6 e2 y1 y2 y3 y4 y5 y6) [] cB, .If t3 [.Expr (.Yield (some e3) y8) y9] [] y10]
/-- a def whose body is of that shape -/
def GenDef (B : Base) (a0 : Addr) (k : Nat) : Prop :=
  ∃ (ps : Arguments) (sc : Scope) (gnames : List Str) (pn n1 n2 fnm anm : Str) (ts : List PySem.Expr) (t1 e1 : PySem.Expr) (s5 : Stmt) (t2 : PySem.Expr) (s6 : Stmt) (e2 t3 e3 : PySem.Expr) (z1 z2 zk : Nat) (c1 c2 c3 c4 c5 c6 c7 c8 c9 cA cB y1 y2 y3 y4 y5 y6 y8 y9 y10 : Pos),
    DefAt B a0 ps (gAll n1 n2 fnm anm ts t1 e1 s5 t2 s6 e2 t3 e3 z1 z2 zk c1 c2 c3 c4 c5 c6 c7 c8 c9 cA cB y1 y2 y3 y4 y5 y6 y8 y9 y10) sc .none .none true ∧
    Looks sc gnames [none, none, none, none] ∧ celNames sc.names = [] ∧ (∀ x : Str, Binding B ps .none .none [] [.str x] [(pn, .str x)]) ∧ (∀ x : Str, SetAt gnames [none, none, none, none] pn (.str x) [some (.str x), none, none, none]) ∧
    ∀ x : Str, GSpec B k ⟨sc, gnames, [], none⟩ x n1 n2 fnm anm ts t1 e1 s5 t2 s6 e2 t3

theorem const_stmt {B : Base} {F : FI} {A : Around} {env : Env} {vars us : List (Option V)} {s : Shared} {n : Str} {c : Const} {v : V} {z : Nat} {c1 c2 c3 : Pos} {Q : Flow → Shared → Prop} {E : Value → Shared → Prop} (hset : SetAt F.names vars n v us)
    (hc : ∀ (s : Shared) (Q : Value → Shared → Prop) (E : Value → Shared → Prop), (∀ val t, Is v val → Q val { s with toks := t }) → wpAny B.M A (eval (.Constant c z c2) env) Q E s)
    (f : Fm F env vars Pe H0 s) (w : Wd B s) (hL : B.obj env.locals = none)
    (q : ∀ h' t, Fm F env us Pe H0 { s with heap := h', toks := t } → Wd B { s with heap := h', toks := t } → Heap.SameBut env.locals s.heap h' → Q .next { s with heap := h', toks := t }) : wpAny B.M A (exec (.Assign [.Name n c1] (.Constant c z c2) c3) env) Q E s := by
  refine wpAny_Assign_Name (hc s _ _ fun val t is => ?_)
  have f' : Fm F env vars (Pall env.locals { s with toks := t }) H0 { s with toks := t } := Fm.toAll (s := { s with toks := t }) (f.again (s'' := { s with toks := t }) fun _ h => h)
  have w' : Wd B { s with toks := t } := ⟨w.base, w.bare⟩
  refine f'.storeLoc (Pall.ok w' _) hset is fun h' t' f2 o2 hs => ?_
  obtain ⟨_, w2, _, f3⟩ := Ok.out w' hL f2 o2
  exact q h' t' f3 w2 hs
theorem gen_start {B : Base} {k : Nat} {A : Around} {F : FI} {x n1 n2 fnm anm : Str} {ts : List PySem.Expr} {t1 e1 : PySem.Expr} {s5 : Stmt} {t2 : PySem.Expr} {s6 : Stmt} {e2 t3 e3 : PySem.Expr} {z1 z2 zk : Nat} {c1 c2 c3 c4 c5 c6 c7 c8 c9 cA cB y1 y2 y3 y4 y5 y6 y8 y9 y10 : Pos}
    (G : GSpec B k F x n1 n2 fnm anm ts t1 e1 s5 t2 s6 e2 t3) (hle : left false x.cps.toList = false) (hA : Room (k + 1) A) {env : Env} (hL : B.obj env.locals = none) {s : Shared} (f : Fm F env [some (.str x), none, none, none] Pe H0 s) (w : Wd B s) :
    Seg B.M A (genR (ownOf env.locals (s.heap.objs.size + 1) s.heap.objs.size)) (genY B (escs 0 false x.cps.toList) env.locals (s.heap.objs.size + 1) s.heap.objs.size) ((escs 0 false x.cps.toList).length + 1) s
      (.func (gAll n1 n2 fnm anm ts t1 e1 s5 t2 s6 e2 t3 e3 z1 z2 zk c1 c2 c3 c4 c5 c6 c7 c8 c9 cA cB y1 y2 y3 y4 y5 y6 y8 y9 y10) env)
      (B.M.den (.func (gAll n1 n2 fnm anm ts t1 e1 s5 t2 s6 e2 t3 e3 z1 z2 zk c1 c2 c3 c4 c5 c6 c7 c8 c9 cA cB y1 y2 y3 y4 y5 y6 y8 y9 y10) env)) [] s := by
  refine seg_func (seg_execs_cons (seg_stmt ?_))
  refine const_stmt (v := .int 0) G.st1 (fun s Q E q => wpAny_Constant_int (q _ _ (.int _ _))) f w hL fun h1 tk1 f1 w1 hs1 => ?_
  refine seg_execs_cons (seg_stmt ?_)
  refine const_stmt (v := .bool false) G.st2 (fun s Q E q => fun _ _ _ => q _ s.toks (.bool false)) f1 w1 hL fun h2 tk2 f2 w2 hs2 => ?_
  have hz : h2.objs.size = s.heap.objs.size := hs2.1.trans hs1.1
  have kp2 : Kp (ownOf env.locals (s.heap.objs.size + 1) s.heap.objs.size) s { s with heap := h2, toks := tk2 } := ⟨fun b o nb eb => ((hs2.2 b fun q => nb (.inl q)).trans (hs1.2 b fun q => nb (.inl q))).trans eb, fun _ _ h => h, rfl⟩
  refine seg_execs_cons (seg_For (enum_call G.fn G.an f2 w2 fun h3 t3 he hi hk => ?_))
  rw [show ({ s with heap := h2, toks := tk2 } : Shared).heap.objs.size = s.heap.objs.size from hz] at he hi ⊢
  refine wpAny_pyIter_enum he fun p => ?_
  have hne : s.heap.objs.size + 1 ≠ s.heap.objs.size := Nat.succ_ne_self _
  obtain ⟨St, Mid, W, hst, alive⟩ := strWalk (prog := B.prog) (w := B.w) hne x t3
  have hLlt : env.locals < s.heap.objs.size := f.lt
  have hfresh : ∀ b, s.heap.objs.size ≤ b → B.obj b = none := fun b hb => by
    cases q : B.obj b with
    | none => rfl
    | some o => exact absurd (Heap.lt_size (w.base b o q)) (Nat.not_lt.mpr hb)
  exact gen_loop G W alive hA hL (hfresh _ (Nat.le_succ _)) (hfresh _ (Nat.le_refl _)) (Nat.ne_of_gt (Nat.lt_succ_of_lt hLlt)) (Nat.ne_of_gt hLlt) x.cps.toList 0 false _ _ _ s _ [] (List.drop_zero ..) (Nat.zero_le _) hle rfl rfl (f2.again fun o h => hk _ o h) ⟨fun a o h => hk a o (w2.base a o h), w2.bare⟩
    (kp2.trans ⟨fun b o _ h => hk b o h, fun _ _ h => h, rfl⟩) (hst _ he hi)

/-- the things that such a generator hands out -/
abbrev EscItem (x : Str) (i : Nat) (H : Hp) (v : V) (H' : Hp) : Prop := ∃ t p y, (escs 0 false x.cps.toList)[i]? = some (p, y) ∧ v = .ref t ∧ H t = none ∧ H' = put H t (.tup [.int p, .str y])
theorem WIt.gen {B : Base} {k : Nat} {F : FI} {vars : List (Option V)} {H : Hp} {gn : Str} {p1 p3 : Pos} {arg : PySem.Expr} {a0 : Addr} {Ψ : Nat → (Hp → Prop) → (Nat → Hp → V → Hp → Prop) → Hp → Prop} (GD : GenDef B a0 k)
    (hgl : F.sc.names.lookup gn = some .globalImplicit) (hm : B.mg gn = some (.ref a0))
    (h : WE B (k + 2) F arg vars H fun v H1 => ∃ x, v = .str x ∧ left false x.cps.toList = false ∧ Ψ (escs 0 false x.cps.toList).length (fun _ => True) (EscItem x) H1)
    (hd : (gn == ("__debug__" : Str)) = false := by decide +kernel) (hs : ∀ env, starEach [arg] env = [(false, eval arg env)] := by intro; with_unfolding_all rfl) : WIt B (k + 2) F (.Call (.Name gn p1) [arg] [] p3) vars H Ψ := by
  obtain ⟨ps, sc, gnames, pn, n1, n2, fnm, anm, ts, t1, e1, s5, t2, s6, e2, t3, e3, z1, z2, zk, c1, c2, c3, c4, c5, c6, c7, c8, c9, cA, cB, y1, y2, y3, y4, y5, y6, y8, y9, y10, D, L, hcn, hbind, hset, G⟩ := GD
  intro A env P s Q r i f o q
  rw [arm_eval_Call_Name']
  refine wpAny_bind ?_
  refine Calls.Name_function_global f.fn (by unfold Env.kindOf; rw [f.sc]; exact hgl) (Calls.loadGlobal_global (mg := B.mg) (by rw [f.glob]; exact B.glob _ (i.heap o)) hm ?_) hd
  obtain ⟨ob, fd, hob, hdat, rfl, hbody, rfl, hg, hcl, hdv, hkd, hbl, hgen, hco, hk, c, oc, cvs, ct, hcd, hoc, hcf, hcq⟩ := D
  refine callWith_any (by rw [hs]; rfl) rfl (evalArgs_any (by rw [hs]; rfl) ?_)
  rw [hs]
  show wpAny _ _ (spliced [(false, eval arg env)]) _ _ _
  refine Calls.spliced_cons (noE (h A env P s r i f o) ?_)
  rintro xv s1 ⟨v, H1, iv, f1, o1, x, rfl, hle, hΨ⟩
  refine Calls.spliced_nil ⟨.inr ⟨a0, ob, fd, rfl, i.heap o1 _ _ hob, hdat⟩, ?_⟩
  obtain ⟨P', hP, hPg, hPo, o1', back⟩ := f1.guard o1
  have ib : B.In P' := fun a x e => hP a x (i a x e)
  obtain ⟨binds, hbi, hba⟩ := hbind x fd P' H1 s1 [] [xv] rfl hdv hkd ib o1' (.cons iv .nil) rfl
  refine wpAny_call (codeAny_call_generator r.depth (ib.heap o1' _ _ hob) hdat hco hgen hbody ⟨c, oc, cvs, ct, hcd, ib.heap o1' _ _ hoc, hcf, hcq⟩ (hbi _ _ _ _ ?_))
  rw [hg, hcl, hbl]
  refine env_new (fcs := []) none (fun _ _ e => nomatch e) o1' hk hco L.nd L.lo (by simpa using L.cel) L.cn L.vs (fun _ _ hm => nomatch hm) (fun _ _ hm => nomatch hm) (fun _ e => nomatch e) fun cs genv s2 h1 _ _ _ hsc hloc fg o2 => ?_
  rw [hcn] at h1
  have hcs : cs = [] := List.length_eq_zero_iff.mp h1
  subst hcs
  have eF : (⟨fd.scope, gnames, (celNames fd.scope.names).zip [] ++ [], none⟩ : FI) = ⟨fd.scope, gnames, [], none⟩ := by simp
  rw [eF] at fg
  have o2' : Ok P' H1 s2 := o2
  have fg' : Fm ⟨fd.scope, gnames, [], none⟩ genv [none, none, none, none] P' H1 s2 := fg
  refine noE (WBs.run (k := k + 1) (A := A.in1) (Φ := fun v H' => v = [some (.str x), none, none, none] ∧ H' = H1) r.in1 ib hba fg' o2' (WSt.loc (hset x) ⟨rfl, rfl⟩)) ?_
  rintro _ s3 ⟨gv, H3, f3, o3, rfl, rfl⟩
  refine ⟨B.limit _ (ib.heap o3), ?_⟩
  -- the new generator's foot
  obtain ⟨m, ⟨ol, es, ep, hol, hrest⟩, hvals⟩ := id f3.ns
  have hLlt : genv.locals < s3.heap.objs.size := Heap.lt_size hol
  have hPL : P'.obj genv.locals = none := f3.locP
  have hHL : H3 genv.locals = none := f3.locH
  let og : Obj := { cls := .type "generator", data := .fields #[.int s3.gens.size 0, .str fd.name s3.toks, .str fd.qualname (s3.toks + 1)] }
  let ft : Foot := { obj := fun b => if b = s3.heap.objs.size then some og else if b = genv.locals then some ol else none, gen := fun j => if j = s3.gens.size then some (.fresh (.func (gAll n1 n2 fnm anm ts t1 e1 s5 t2 s6 e2 t3 e3 z1 z2 zk c1 c2 c3 c4 c5 c6 c7 c8 c9 cA cB y1 y2 y3 y4 y5 y6 y8 y9 y10) genv)) else none }
  have hga : s3.heap.objs.size ≠ genv.locals := Nat.ne_of_gt hLlt
  have hft : ∀ b y, ft.obj b = some y → (b = s3.heap.objs.size ∧ y = og) ∨ (b = genv.locals ∧ y = ol) := fun b y z => by
    have z' : (if b = s3.heap.objs.size then some og else if b = genv.locals then some ol else none) = some y := z
    split at z'
    · exact .inl ⟨‹_›, (Option.some.inj z').symm⟩
    · split at z'
      · exact .inr ⟨‹_›, (Option.some.inj z').symm⟩
      · cases z'
  have d : Dis P' ft := ⟨fun b y z => by
    rcases hft b y z with ⟨rfl, _⟩ | ⟨rfl, _⟩
    · exact o3.newP
    · exact hPL, fun j y z => by
    have z' : (if j = s3.gens.size then some (GenState.fresh (.func (gAll n1 n2 fnm anm ts t1 e1 s5 t2 s6 e2 t3 e3 z1 z2 zk c1 c2 c3 c4 c5 c6 c7 c8 c9 cA cB y1 y2 y3 y4 y5 y6 y8 y9 y10) genv)) else none) = some y := z
    split at z'
    · subst_vars
      cases zz : P'.gen s3.gens.size with
      | none => rfl
      | some w => have := o3.gens _ _ zz; rw [Array.getElem?_eq_none (Nat.le_refl _)] at this; cases this
    · cases z'⟩
  have o4 : Ok (P'.with ft) H3 { s3 with gens := s3.gens.push (.fresh (.func (gAll n1 n2 fnm anm ts t1 e1 s5 t2 s6 e2 t3 e3 z1 z2 zk c1 c2 c3 c4 c5 c6 c7 c8 c9 cA cB y1 y2 y3 y4 y5 y6 y8 y9 y10) genv)), toks := s3.toks + 1 + 1, heap := s3.heap.push og } := by
    refine ⟨fun b y z => ?_, fun b y z => ?_, fun b y z => ?_, fun j y z => ?_, o3.bare.push rfl, o3.os⟩
    · have z' : (ft.obj b).or (P'.obj b) = some y := z
      cases zz : ft.obj b with
      | none => rw [zz, Option.none_or] at z'; exact Heap.get?_push_of_some _ (o3.prot b y z')
      | some w =>
        rw [zz] at z'; cases z'
        rcases hft b _ zz with ⟨rfl, rfl⟩ | ⟨rfl, rfl⟩
        · exact Heap.get?_push_size _ rfl
        · exact Heap.get?_push_of_some _ hol
    · obtain ⟨ob, a, b⟩ := o3.objs b y z
      exact ⟨ob, Heap.get?_push_of_some _ a, b⟩
    · have z' : (ft.obj b).or (P'.obj b) = some y := z
      cases zz : ft.obj b with
      | none => rw [zz, Option.none_or] at z'; exact o3.dis b y z'
      | some w =>
        rcases hft b _ zz with ⟨rfl, _⟩ | ⟨rfl, _⟩
        · exact o3.newH
        · exact hHL
    · have z' : (if j = s3.gens.size then some (GenState.fresh (.func (gAll n1 n2 fnm anm ts t1 e1 s5 t2 s6 e2 t3 e3 z1 z2 zk c1 c2 c3 c4 c5 c6 c7 c8 c9 cA cB y1 y2 y3 y4 y5 y6 y8 y9 y10) genv)) else none).or (P'.gen j) = some y := z
      by_cases hj : j = s3.gens.size
      · rw [if_pos hj] at z'; cases z'; subst hj; simp
      · rw [if_neg hj, Option.none_or] at z'
        have := o3.gens j y z'
        have hlt := (Array.getElem?_eq_some_iff.mp this).1
        show (s3.gens.push _)[j]? = some y
        rw [Array.getElem?_push, if_neg hj]; exact this
  have hag : ft.obj s3.heap.objs.size = some og := if_pos rfl
  have hagL : ft.obj genv.locals = some ol := by show (if genv.locals = _ then _ else _) = _; rw [if_neg (Ne.symm hga), if_pos rfl]
  have hBL : B.obj genv.locals = none := by
    cases z : B.obj genv.locals with
    | none => rfl
    | some y => rw [ib _ _ z] at hPL; cases hPL
  have j0 : gnJ B A (escs 0 false x.cps.toList) s3.heap.objs.size s3.gens.size genv.locals 0 ft := by
    refine ⟨_, og, rfl, hag, ⟨_, _, rfl, rfl, rfl⟩, hga, rfl, fun s5 hobj w5 => ⟨s5.heap.objs.size + 1, s5.heap.objs.size, fun b ho => ?_, rfl, ?_⟩⟩
    · have hg5 : s3.heap.objs.size < s5.heap.objs.size := Heap.lt_size (hobj _ _ hag)
      have hno : ∀ b, s5.heap.objs.size ≤ b → s5.heap.get? b = none := fun b hb => by
        cases z : s5.heap.get? b with
        | none => rfl
        | some y => exact absurd (Heap.lt_size z) (Nat.not_lt.mpr hb)
      rcases ho with rfl | rfl | rfl
      · exact ⟨Ne.symm hga, .inl (by rw [hagL]; exact fun h => nomatch h)⟩
      · exact ⟨Nat.ne_of_gt (Nat.lt_succ_of_lt hg5), .inr (hno _ (Nat.le_succ _))⟩
      · exact ⟨Nat.ne_of_gt hg5, .inr (hno _ (Nat.le_refl _))⟩
    · exact gen_start (G x) hle r.in1 hBL (f3.fromAll.again fun o h => by rw [hol] at h; cases h; exact hobj _ _ hagL) w5
  obtain ⟨f4, o4'⟩ := back _ _ (o4.drop d)
  have dP : Dis P ft := ⟨fun b y z => by
    cases zz : P.obj b with
    | none => rfl
    | some w => (have := d.obj b y z; rw [hP b w zz] at this; cases this), fun j y z => by have := d.gen j y z; rw [hPg] at this; exact this⟩
  have o5 : Ok (P.with ft) H3 { s3 with gens := s3.gens.push (.fresh (.func (gAll n1 n2 fnm anm ts t1 e1 s5 t2 s6 e2 t3 e3 z1 z2 zk c1 c2 c3 c4 c5 c6 c7 c8 c9 cA cB y1 y2 y3 y4 y5 y6 y8 y9 y10) genv)), toks := s3.toks + 1 + 1, heap := s3.heap.push og } := o4.weak (fun b y z => by
    have z' : (ft.obj b).or (P.obj b) = some y := z
    show (ft.obj b).or (P'.obj b) = some y
    cases zz : ft.obj b with
    | none => rw [zz, Option.none_or] at z'; rw [Option.none_or]; exact hP b y z'
    | some w => rw [zz] at z'; exact z') (fun _ _ h => h) (fun j y z => by
    have z' : (ft.gen j).or (P.gen j) = some y := z
    show (ft.gen j).or (P'.gen j) = some y
    rw [hPg]; exact z') hPo.symm
  have hloc0 : ft.obj env.locals = none := by
    cases z : ft.obj env.locals with
    | none => rfl
    | some y =>
      rcases hft _ _ z with ⟨e1, _⟩ | ⟨e1, _⟩
      · exact absurd e1 (Nat.ne_of_lt (back _ _ o3).1.lt)
      · have hl1 := f1.lt
        rw [e1, hloc.1] at hl1
        exact absurd hl1 (Nat.lt_irrefl _)
  refine wpAny_pyIter_gen ⟨og, _, _, o4.foot hag, rfl, rfl, rfl⟩ ?_
  refine q _ _ ft _ _ _ H3 _ iter_gen (fun P f H s j o => ?_) j0 dP o5 f4 hloc0 hΨ
  obtain ⟨gs, og', hfg, hfa, ⟨nm, qn, hc, hd, hsl⟩, _⟩ := j
  exact wpAny_pyIter_gen ⟨og', nm, qn, o.foot hfa, hc, hd, hsl⟩ ⟨rfl, rfl⟩
end Mine
end
noncomputable section
open PySem PySem.W PyProof.Rows
namespace Mine
theorem Are.ints : ∀ {ns : List Int} {vs : List Value}, Are (ns.map V.int) vs → IntsAre vs ns
  | [], _, .nil => .nil
  | _ :: _, _, .cons (.int i t) h => .cons i t h.ints
theorem Are.items : ∀ {ns : List Int} {vs : List Value}, Are (ns.map V.int) vs → ∃ xs : List (Int × Tok), vs = xs.map (fun p => Value.int p.1 p.2) ∧ xs.map (·.1) = ns
  | [], _, .nil => ⟨[], rfl, rfl⟩
  | _ :: _, _, .cons (.int i t) h => let ⟨xs, a, b⟩ := h.items; ⟨(i, t) :: xs, by rw [a]; rfl, by rw [← b]; rfl⟩
/-- a list, in the abstract heap or told just so -/
def Lst (H : Hp) (a : Addr) (xs : List V) : Prop := ∀ (P : Pr) (s : Shared), Ok P H s → ∃ vs n, Are xs vs ∧ IsL s.heap a vs.toArray n
theorem Lst.of {H : Hp} {a : Addr} {xs : List V} (h : H a = some (.list xs)) : Lst H a xs := fun _ _ o => o.isL h
theorem Lst.raw {H : Hp} {a : Addr} {xs : List V} {vs : List Value} {n : Nat} (h : H a = some (.raw { cls := .type "list", data := .seq vs.toArray n })) (i : Are xs vs) : Lst H a xs := fun _ _ o => ⟨vs, n, i, o.raw h⟩

/-! items -/
def NotPy (x : Value) (s : Shared) : Prop := ∀ (M : Model) (A : Around) (E : Value → Shared → Prop) (Q : Bool → Shared → Prop), Q false s → wpAny M A (getitemInPython x) Q E s
theorem NotPy.of {x : Value} {s : Shared} {T id : String} (h : s.TypeIs x T) (hl : typeLookup (.type T) "__getitem__" = pure (some (.builtin id))) : NotPy x s := fun M A E Q q => by
  rw [getitemInPython_of_ne h.not_modules]
  refine wpAny_bind (wpAny_specialOf h hl ?_)
  exact wpAny_pure q
/-- an item, a slice -/
def WItem (B : Base) (k : Nat) (a i : V) (H : Hp) (Φ : V → Hp → Prop) : Prop :=
  ∀ A P s x y, Room k A → B.In P → Ok P H s → Is a x → Is i y → NotPy x s ∧ wpAny B.M A (getItem x y) (fun val s' => ∃ v H', Is v val ∧ Ok P H' s' ∧ Φ v H') (fun _ _ => False) s
section
variable {B : Base} {k : Nat} {F : FI} {vars : List (Option V)} {H : Hp} {i j : Int} {x y : Str}
theorem WE.sub {ve ie : PySem.Expr} {pos : Pos} {Φ : V → Hp → Prop} (h : WE B k F ve vars H fun a H1 => WE B k F ie vars H1 fun i H2 => WItem B k a i H2 Φ)
    (hs : ∀ o i, subscripted ie false o i = operate [o, i] (getItem o i) := by intro _ _; with_unfolding_all rfl) : WE B k F (.Subscript ve ie pos) vars H Φ := by
  intro A env P s r ib f o
  rw [eval_Subscript]
  refine wpAny_bind (wpAny_mono (h A env P s r ib f o) ?_ fun _ _ e => e)
  rintro x s1 ⟨a, H1, ia, f1, o1, h1⟩
  refine wpAny_bind (wpAny_holding (wpAny_mono (h1 A env P s1 r ib f1 o1) ?_ fun _ _ e => e))
  rintro y s2 ⟨i, H2, ii, f2, o2, h2⟩
  refine wpAny_bind (wpAny_standAt (wpAny_bind ?_))
  obtain ⟨P', hP, _, _, o', back⟩ := f2.guard o2
  obtain ⟨np, hw⟩ := h2 A P' s2 x y r (fun a o e => hP a o (ib a o e)) o' ia ii
  refine np _ _ _ _ (wpAny_bind ?_)
  rw [hs]
  refine wpAny_operating (wpAny_mono hw ?_ fun _ _ e => e)
  rintro z s3 ⟨v, H3, iv, o3, h3⟩
  exact wpAny_bind (wpAny_letTemporaryGo (wpAny_pure ⟨v, H3, iv, (back _ _ o3).1, (back _ _ o3).2, h3⟩))
/-- a part of a slice -/
def WPt (B : Base) (k : Nat) (F : FI) (e : Option PySem.Expr) (vars : List (Option V)) (H : Hp) (Φ : V → Hp → Prop) : Prop :=
  match e with
  | none => Φ .none H
  | some e => WE B k F e vars H Φ
theorem WPt.run {e : Option PySem.Expr} {Φ : V → Hp → Prop} (h : WPt B k F e vars H Φ) {A : Around} {env : Env} {P : Pr} {s : Shared} (r : Room k A) (ib : B.In P) (f : Fm F env vars P H s) (o : Ok P H s) :
    wpAny B.M A (valueOrNone (evalOpt e env)) (fun val s' => ∃ v H', Is v val ∧ Fm F env vars P H' s' ∧ Ok P H' s' ∧ Φ v H') (fun _ _ => False) s := by
  cases e with
  | none => exact wpAny_pure ⟨_, _, .none, f, o, h⟩
  | some e => rw [arm_evalOpt_some]; exact h A env P s r ib f o
def WSl (B : Base) (k : Nat) (a l u t : V) (H : Hp) (Φ : V → Hp → Prop) : Prop :=
  ∀ A P s x vl vu vt sl, Room k A → B.In P → Ok P H s → Is a x → Is l vl → Is u vu → Is t vt → s.heap.get? sl = some { cls := .type "slice", data := .fields #[vl, vu, vt] } → NotPy x s ∧ wpAny B.M A (getItem x (.ref sl)) (fun val s' => ∃ v H', Is v val ∧ Ok P H' s' ∧ Φ v H') (fun _ _ => False) s
theorem WE.slice {ve : PySem.Expr} {lo hi st : Option PySem.Expr} {p pos : Pos} {Φ : V → Hp → Prop}
    (h : WE B k F ve vars H fun a H1 => WPt B k F lo vars H1 fun l H2 => WPt B k F hi vars H2 fun u H3 => WPt B k F st vars H3 fun t H4 => WSl B k a l u t H4 Φ) : WE B k F (.Subscript ve (.Slice lo hi st p) pos) vars H Φ := by
  intro A env P s r ib f o
  rw [eval_Subscript]
  refine wpAny_bind (wpAny_mono (h A env P s r ib f o) ?_ fun _ _ e => e)
  rintro x s1 ⟨a, H1, ia, f1, o1, h1⟩
  refine wpAny_bind (wpAny_holding ?_)
  rw [arm_eval_Slice]
  refine wpAny_bind (wpAny_mono (h1.run r ib f1 o1) ?_ fun _ _ e => e)
  rintro vl s2 ⟨l, H2, il, f2, o2, h2⟩
  refine wpAny_bind (wpAny_holding (wpAny_mono (h2.run r ib f2 o2) ?_ fun _ _ e => e))
  rintro vu s3 ⟨u, H3, iu, f3, o3, h3⟩
  refine wpAny_bind (wpAny_holding (wpAny_mono (h3.run r ib f3 o3) ?_ fun _ _ e => e))
  rintro vt s4 ⟨t, H4, it, f4, o4, h4⟩
  refine wpAny_newObj_type ?_ (by size_fits)
  refine wpAny_bind (wpAny_standAt (wpAny_bind ?_))
  have f5 := f4.push { cls := .type "slice", data := .fields #[vl, vu, vt] } s4.toks
  have o5 := o4.push { cls := .type "slice", data := .fields #[vl, vu, vt] } s4.toks
  obtain ⟨P', hP, _, _, o', back⟩ := f5.guard o5
  obtain ⟨np, hw⟩ := h4 A P' _ x vl vu vt s4.heap.objs.size r (fun a o e => hP a o (ib a o e)) o' ia il iu it (Heap.get?_push_size _ rfl)
  refine np _ _ _ _ (wpAny_bind ?_)
  have fin : wpAny B.M A (getItem x (.ref s4.heap.objs.size)) (fun r' s' => wpAny B.M A (letTemporaryGo ve x r' >>= fun _ => pure r') (fun val s' => ∃ v H', Is v val ∧ Fm F env vars P H' s' ∧ Ok P H' s' ∧ Φ v H') (fun _ _ => False) s') (fun _ _ => False) { s4 with heap := s4.heap.push { cls := .type "slice", data := .fields #[vl, vu, vt] } } := by
    refine wpAny_mono hw ?_ fun _ _ e => e
    rintro z s5 ⟨v, H5, iv, o5, h5⟩
    exact wpAny_bind (wpAny_letTemporaryGo (wpAny_pure ⟨v, H5, iv, (back _ _ o5).1, (back _ _ o5).2, h5⟩))
  cases st with
  | none => exact wpAny_operating fin
  | some e => exact wpAny_operating fin

/-! lists -/
theorem item_list {a : Addr} {xs : List V} {v : V} {Φ : V → Hp → Prop} (hl : Lst H a xs) (h0 : 0 ≤ i) (h63 : i < 2 ^ 63) (hx : xs[i.toNat]? = some v) (h : Φ v H) : WItem B k (.ref a) (.int i) H Φ := by
  rintro A P s _ _ r ib o ⟨⟩ (_ | _ | _ | ⟨_, t⟩)
  obtain ⟨vs, n, ia, e⟩ := hl P s o
  obtain ⟨w, hw, iw⟩ := ia.get hx
  exact ⟨.of e.isList.typeIs slot_list_getitem.lookup, wpAny_getItem_list e.isList h0 h63 (by simpa using hw) ⟨_, _, iw, o, h⟩⟩

/-- a list's item set, the object told just so -/
theorem setItem_L {prog : Program} {w : World} {A : Around} {E : Value → Shared → Prop} {s : Shared} {l : Addr} {items : Array Value} {m : Nat} {k : Int} {t : Tok} {v : Value} {Q : Unit → Shared → Prop} (hl : IsL s.heap l items m) (h0 : 0 ≤ k) (hfit : k < 2 ^ 63) (hn : k < items.size)
    (hQ : Q () { s with heap := s.heap.update l (Obj.mapSeq (·.setIfInBounds k.toNat v)) }) : wpAny (model prog w) A (setItem (.ref l) (.int k t) v) Q E s := by
  have hT := hl.isList.typeIs
  unfold setItem
  try with_reducible refine wpAny_holding ?_
  first | refine wpAny_bind (wpAny_pure ?_) | skip
  refine wpAny_bind (wpAny_sequenceKey hT (by decide) ?_)
  refine wpAny_bind (wpAny_callSpecial?_slot (name := Str.ofString "__setitem__") hT slot_list_setitem (wpAny_call_entry slot_list_setitem hT entry_list_setitem ?_ (args_list_setitem _ _ _)))
  show wpAny _ _ (Builtin.List.listSubscript? (.int k t) >>= _) _ _ s
  refine wpAny_bind (wpAny_listSubscript_int (fitsIndex_of h0 hfit) ?_)
  clear hfit
  obtain ⟨j, rfl⟩ := Int.eq_ofNat_of_zero_le h0
  have hj : j < items.size := by omega
  show wpAny _ _ ((seqItemAt l j >>= fun r => pure (r.map (j, ·))) >>= _) _ _ s
  refine wpAny_bind (wpAny_bind (wpAny_seqItemAt hl rfl (wpAny_pure ?_)))
  rw [Array.getElem?_eq_getElem hj]
  show wpAny _ _ (setSeqItemAt l j v >>= _) _ _ s
  refine wpAny_bind (wpAny_setSeqItemAt hl rfl ?_)
  first
    | exact wpAny_bind (wpAny_pure (wpAny_pure ⟨.none, rfl, wpAny_pure hQ⟩))
    | exact wpAny_pure ⟨.none, rfl, wpAny_pure hQ⟩
theorem set_list {a : Addr} {xs : List V} {v : V} {Φ : Hp → Prop} (hl : H a = some (.list xs)) (h0 : 0 ≤ i) (h63 : i < 2 ^ 63) (hx : i < xs.length) (h : Φ (put H a (.list (xs.set i.toNat v)))) : WSet B k (.ref a) (.int i) v H Φ := by
  rintro A P s _ _ z r ib o ⟨⟩ hi iv
  cases hi
  obtain ⟨vs, n, ia, e⟩ := o.isL hl
  exact setItem_L e h0 h63 (by simpa [← ia.length] using hx) ⟨_, o.mapL hl e _ (us := vs.set i.toNat z) (by simp) (ia.set iv i.toNat) _, h⟩
theorem part_of {l : V} {v : Value} (h : Is l v) {p : Option Int} (hp : l = (match p with | none => .none | some i => .int i)) : IsPart v p := by
  subst hp
  cases p with
  | none => cases h; exact .none
  | some i => cases h; exact .int _ _
def pV (p : Option Int) : V := match p with | none => .none | some i => .int i
theorem sl_list {a : Addr} {xs ys : List V} {lo hi st : Option Int} {Φ : V → Hp → Prop} (hl : Lst H a xs) (hz : xs.length ≤ sizeLine) (h0 : st ≠ some 0)
    (hy : ∀ vs, Are xs vs → ∃ us, slicePick vs.toArray lo hi st = us.toArray ∧ Are ys us) (h : ∀ b, H b = none → Φ (.ref b) (put H b (.list ys))) : WSl B k (.ref a) (pV lo) (pV hi) (pV st) H Φ := by
  rintro A P s _ vl vu vt sl r ib o ⟨⟩ il iu it hs
  obtain ⟨vs, n, ia, e⟩ := hl P s o
  obtain ⟨us, hu, iu'⟩ := hy vs ia
  refine ⟨.of e.isList.typeIs slot_list_getitem.lookup, wpAny_getItem_list_slice e.isList ⟨_, hs, rfl, rfl⟩ (part_of il rfl) (part_of iu rfl) (part_of it rfl) h0 ?_ (by simpa [ia.length] using hz)⟩
  rw [hu]
  exact ⟨_, _, .ref _, o.pushH (.list 0 iu') _, h _ o.newH⟩
theorem sl_upto {a : Addr} {xs : List V} {n : Nat} {Φ : V → Hp → Prop} (hl : Lst H a xs) (hz : xs.length ≤ sizeLine) (h : ∀ b, H b = none → Φ (.ref b) (put H b (.list (xs.take n)))) : WSl B k (.ref a) .none (.int n) .none H Φ :=
  sl_list (lo := none) (hi := some n) (st := none) hl hz (by simp) (fun vs ia => ⟨_, slicePick_upto' _ _, ia.take n⟩) h

theorem sl_all {a : Addr} {xs : List V} {Φ : V → Hp → Prop} (hl : Lst H a xs) (hz : xs.length ≤ sizeLine) (h : ∀ b, H b = none → Φ (.ref b) (put H b (.list xs))) : WSl B k (.ref a) .none .none .none H Φ :=
  sl_list (lo := none) (hi := none) (st := none) hl hz (by simp) (fun vs ia => ⟨vs, slicePick_all _, ia⟩) h

end
end Mine
end
noncomputable section
open PySem PySem.W PyProof.Rows
namespace Mine
abbrev vI (ns : List Int) : List V := ns.map V.int
abbrev vS (ns : List Str) : List V := ns.map V.str
theorem Are.strz : ∀ {ns : List Str} {vs : List Value}, Are (vS ns) vs → ∃ l : List (Str × Tok), vs = strValues l ∧ l.map (·.1) = ns
  | [], _, .nil => ⟨[], rfl, rfl⟩
  | _ :: _, _, .cons (.str i t) h => let ⟨xs, a, b⟩ := h.strz; ⟨(i, t) :: xs, by rw [a]; rfl, by rw [← b]; rfl⟩
/-- a value's type, for a method -/
def MTy (T : String) (B : Base) (v : V) (H : Hp) : Prop := ∀ (P : Pr) (s : Shared) (val : Value), B.In P → Ok P H s → Is v val → s.TypeIs val T ∧ ∀ a, val = .ref a → ∃ ob, s.heap.get? a = some ob ∧ ob.dict = none
theorem mty_list {B : Base} {H : Hp} {a : Addr} {xs : List V} (h : H a = some (.list xs)) : MTy "list" B (.ref a) H := fun P s val ib o i => by
  cases i
  obtain ⟨vs, n, _, e⟩ := o.isL h
  exact ⟨e.isList.typeIs, fun b e' => by cases e'; exact ⟨_, e, rfl⟩⟩
theorem mty_str {B : Base} {H : Hp} {x : Str} : MTy "str" B (.str x) H := fun P s val ib o i => by
  cases i
  exact ⟨typeIs_str _ _ _, fun b e' => by cases e'⟩

section
variable {B : Base} {k : Nat} {F : FI} {vars : List (Option V)} {H : Hp} {i j : Int} {x y : Str}
theorem WE.meth {oe : PySem.Expr} {name : Str} {p pos : Pos} {es : List PySem.Expr} {T id : String} {Φ : V → Hp → Prop} (pa : PlainAttrs T) (slot : Slot T name id) (hty : typeOf (.builtin id) = pure (.type "method_descriptor"))
    (h : WE B k F oe vars H fun a H1 => MTy T B a H1 ∧ WEs B k F es vars H1 fun vs H2 => WC B k (.builtin id) (a :: vs) H2 Φ)
    (hb : ∀ env, attributeBase oe name env (eval oe env) = eval oe env := by intro; with_unfolding_all rfl) (hline : (p.endLine == pos.line) = true := by with_unfolding_all rfl)
    (hp : ∀ env, (starEach es env).any (·.1) = false := by intro; with_unfolding_all rfl)
    (hfew : ∀ env, ((backTo pos (starEach es env)).all (fun x => !x.1) && (backToKw pos (keywordEach [] env)).all (fun x => x.1.isSome) && decide (es.length + ([] : List Keyword).length + (if ([] : List Keyword).isEmpty then 0 else 1) < 30)) = true := by intro; with_unfolding_all rfl) :
    WE B k F (.Call (.Attribute oe name p) es [] pos) vars H Φ := by
  intro A env P s rm ib f o
  refine wpAny_Call_method (hb env) (hfew env) hline pa slot hty ?_
  refine noE (h A env P s rm ib f o) ?_
  rintro val s1 ⟨v, H1, ia, f1, o1, ht, h1⟩
  obtain ⟨t1, t2⟩ := ht P s1 val ib o1 ia
  refine ⟨t1, t2, callWith_any (backTo_nostar (hp env)) rfl (evalArgs_any (backTo_nostar (hp env)) ?_)⟩
  refine noE (h1 A env P s1 pos rm ib f1 o1) ?_
  rintro vs s2 ⟨as, H2, ias, f2, o2, h2⟩
  exact ⟨.inl (fun _ e => nomatch e), WO.fr h2 rm ib f2 o2 (.cons ia ias)⟩
theorem WE.append {oe : PySem.Expr} {p pos : Pos} {es : List PySem.Expr} {Φ : V → Hp → Prop}
    (h : WE B k F oe vars H fun a H1 => MTy "list" B a H1 ∧ WEs B k F es vars H1 fun vs H2 => WC B k (.builtin "list.append") (a :: vs) H2 Φ)
    (hb : ∀ env, attributeBase oe "append" env (eval oe env) = eval oe env := by intro; with_unfolding_all rfl) (hline : (p.endLine == pos.line) = true := by with_unfolding_all rfl)
    (hp : ∀ env, (starEach es env).any (·.1) = false := by intro; with_unfolding_all rfl)
    (hfew : ∀ env, ((backTo pos (starEach es env)).all (fun x => !x.1) && (backToKw pos (keywordEach [] env)).all (fun x => x.1.isSome) && decide (es.length + ([] : List Keyword).length + (if ([] : List Keyword).isEmpty then 0 else 1) < 30)) = true := by intro; with_unfolding_all rfl) :
    WE B k F (.Call (.Attribute oe "append" p) es [] pos) vars H Φ := .meth PySem.F.plainAttrs_list PySem.F.slot_list_append PySem.F.type_list_append h hb hline hp hfew
theorem WE.pop {oe : PySem.Expr} {p pos : Pos} {Φ : V → Hp → Prop}
    (h : WE B k F oe vars H fun a H1 => MTy "list" B a H1 ∧ WEs B k F [] vars H1 fun vs H2 => WC B k (.builtin "list.pop") (a :: vs) H2 Φ)
    (hb : ∀ env, attributeBase oe "pop" env (eval oe env) = eval oe env := by intro; with_unfolding_all rfl) (hline : (p.endLine == pos.line) = true := by with_unfolding_all rfl) :
    WE B k F (.Call (.Attribute oe "pop" p) [] [] pos) vars H Φ := .meth PySem.F.plainAttrs_list PySem.F.slot_list_pop PySem.F.type_list_pop h hb hline (by intro; rfl) (by intro; rfl)
theorem WE.join {oe : PySem.Expr} {p pos : Pos} {es : List PySem.Expr} {Φ : V → Hp → Prop}
    (h : WE B k F oe vars H fun a H1 => MTy "str" B a H1 ∧ WEs B k F es vars H1 fun vs H2 => WC B k (.builtin "str.join") (a :: vs) H2 Φ)
    (hb : ∀ env, attributeBase oe "join" env (eval oe env) = eval oe env := by intro; with_unfolding_all rfl) (hline : (p.endLine == pos.line) = true := by with_unfolding_all rfl)
    (hp : ∀ env, (starEach es env).any (·.1) = false := by intro; with_unfolding_all rfl)
    (hfew : ∀ env, ((backTo pos (starEach es env)).all (fun x => !x.1) && (backToKw pos (keywordEach [] env)).all (fun x => x.1.isSome) && decide (es.length + ([] : List Keyword).length + (if ([] : List Keyword).isEmpty then 0 else 1) < 30)) = true := by intro; with_unfolding_all rfl) :
    WE B k F (.Call (.Attribute oe "join" p) es [] pos) vars H Φ := .meth PySem.F.plainAttrs_str PySem.F.slot_str_join PySem.F.type_str_join h hb hline hp hfew
theorem WE.index {oe : PySem.Expr} {p pos : Pos} {es : List PySem.Expr} {Φ : V → Hp → Prop}
    (h : WE B k F oe vars H fun a H1 => MTy "list" B a H1 ∧ WEs B k F es vars H1 fun vs H2 => WC B k (.builtin "list.index") (a :: vs) H2 Φ)
    (hb : ∀ env, attributeBase oe "index" env (eval oe env) = eval oe env := by intro; with_unfolding_all rfl) (hline : (p.endLine == pos.line) = true := by with_unfolding_all rfl)
    (hp : ∀ env, (starEach es env).any (·.1) = false := by intro; with_unfolding_all rfl)
    (hfew : ∀ env, ((backTo pos (starEach es env)).all (fun x => !x.1) && (backToKw pos (keywordEach [] env)).all (fun x => x.1.isSome) && decide (es.length + ([] : List Keyword).length + (if ([] : List Keyword).isEmpty then 0 else 1) < 30)) = true := by intro; with_unfolding_all rfl) :
    WE B k F (.Call (.Attribute oe "index" p) es [] pos) vars H Φ := .meth PySem.F.plainAttrs_list PySem.F.slot_list_index PySem.F.type_list_index h hb hline hp hfew

/-! calls -/
theorem call_range1 {Φ : V → Hp → Prop} (h : ∀ r, H r = none → Φ (.ref r) (put H r (.rng 0 i 1))) : WC B k (.type "range") [.int i] H Φ :=
  WO.one fun A P s _ r ib o hx => by
    cases hx
    exact call_range_1 ⟨_, _, .ref _, o.pushH (.rng _ _ _) _, h _ o.newH⟩
theorem call_range2 {Φ : V → Hp → Prop} (h : ∀ r, H r = none → Φ (.ref r) (put H r (.rng i j 1))) : WC B k (.type "range") [.int i, .int j] H Φ :=
  WO.two fun A P s _ _ r ib o hx hy => by
    cases hx; cases hy
    exact call_range_2 ⟨_, _, .ref _, o.pushH (.rng _ _ _) _, h _ o.newH⟩

theorem intItems_of (xs : List (Int × Tok)) : (xs.map (fun p => Value.int p.1 p.2)).toArray = intItems xs.toArray := by simp [intItems]
theorem call_sum {a : Addr} {ns : List Int} {Φ : V → Hp → Prop} (hl : Lst H a (vI ns)) (h : Φ (.int ns.sum) H) : WC B k (.builtin "sum") [.ref a] H Φ :=
  WO.one fun A P s _ r ib o hx => by
    cases hx
    obtain ⟨vs, n, ia, e⟩ := hl P s o
    obtain ⟨xs, rfl, rfl⟩ := ia.items
    have e' := e.isList
    rw [intItems_of] at e'
    refine sum_intListG r.1 e' fun h' tk t' hk => ?_
    rw [preSum_eq, List.take_of_length_le (by simp)]
    exact ⟨_, _, .int _ _, o.grow hk _, h⟩

theorem call_join {a : Addr} {ns : List Str} {Φ : V → Hp → Prop} (hl : Lst H a (vS ns)) (hz : JoinOk x ns = true) (h : Φ (.str (Txt.join x ns)) H) : WC B k (.builtin "str.join") [.str x, .ref a] H Φ :=
  WO.two fun A P s _ _ r ib o hx hy => by
    cases hx; cases hy
    obtain ⟨vs, n, ia, e⟩ := hl P s o
    obtain ⟨l, rfl, hl'⟩ := ia.strz
    exact SC.join e.isList hl' hz fun t' tk => ⟨_, _, .str _ _, o.toks _, h⟩

/-! list operators -/
theorem list_add {a b : Addr} {xs ys : List V} {Φ : V → Hp → Prop} (ha : Lst H a xs) (hb : Lst H b ys) (hz : xs.length + ys.length ≤ sizeLine) (h : ∀ r, H r = none → Φ (.ref r) (put H r (.list (xs ++ ys)))) : WBin B k .Add (.ref a) (.ref b) H Φ :=
  WO.two fun A P s _ _ r ib o hx hy => by
    cases hx; cases hy
    obtain ⟨vs, n, ia, e⟩ := ha P s o
    obtain ⟨us, m, ib, e'⟩ := hb P s o
    refine PySem.P.add_list e e' ⟨_, _, .ref _, ?_, h _ o.newH⟩ (by simpa [← ia.length, ← ib.length] using hz)
    rw [List.append_toArray]
    exact o.pushH (.list 0 (ia.append ib)) _

theorem eq_ints {a b : Addr} {ns ms : List Int} {Φ : V → Hp → Prop} (ha : Lst H a (vI ns)) (hb : Lst H b (vI ms)) (h : Φ (.bool (decide (ns = ms))) H) : WCmp B k .Eq (.ref a) (.ref b) H Φ :=
  WO.two fun A P s _ _ r ib o hx hy => by
    cases hx; cases hy
    obtain ⟨vs, n, ia, e⟩ := ha P s o
    obtain ⟨us, m, ib, e'⟩ := hb P s o
    exact eq_intsK e.isList ia.ints e'.isList ib.ints r.units64 ⟨_, _, .bool _, o, h⟩
theorem ne_ints {a b : Addr} {ns ms : List Int} {Φ : V → Hp → Prop} (ha : Lst H a (vI ns)) (hb : Lst H b (vI ms)) (h : Φ (.bool (!decide (ns = ms))) H) : WCmp B k .NotEq (.ref a) (.ref b) H Φ :=
  WO.two fun A P s _ _ r ib o hx hy => by
    cases hx; cases hy
    obtain ⟨vs, n, ia, e⟩ := ha P s o
    obtain ⟨us, m, ib, e'⟩ := hb P s o
    exact ne_intsK e.isList ia.ints e'.isList ib.ints r.units64 ⟨_, _, .bool _, o, h⟩

/-! the table of signs -/
def Tab (B : Base) (d : Addr) (f : Str → Option Value) : Prop := (d == sysModules) = false ∧ ∀ h : Heap, (∀ a o, B.obj a = some o → h.get? a = some o) → h.MapOf (strKind B.prog B.w) d f

theorem WE.get {oe : PySem.Expr} {p pos : Pos} {es : List PySem.Expr} {Φ : V → Hp → Prop}
    (h : WE B k F oe vars H fun a H1 => MTy "dict" B a H1 ∧ WEs B k F es vars H1 fun vs H2 => WC B k (.builtin "dict.get") (a :: vs) H2 Φ)
    (hb : ∀ env, attributeBase oe "get" env (eval oe env) = eval oe env := by intro; with_unfolding_all rfl) (hline : (p.endLine == pos.line) = true := by with_unfolding_all rfl)
    (hp : ∀ env, (starEach es env).any (·.1) = false := by intro; with_unfolding_all rfl)
    (hfew : ∀ env, ((backTo pos (starEach es env)).all (fun x => !x.1) && (backToKw pos (keywordEach [] env)).all (fun x => x.1.isSome) && decide (es.length + ([] : List Keyword).length + (if ([] : List Keyword).isEmpty then 0 else 1) < 30)) = true := by intro; with_unfolding_all rfl) :
    WE B k F (.Call (.Attribute oe "get" p) es [] pos) vars H Φ := .meth PySem.F.plainAttrs_dict PySem.F.slot_dict_get PySem.F.type_dict_get h hb hline hp hfew

end
end Mine
end
noncomputable section
open PySem PySem.W PyProof.Rows
namespace Mine
section
variable {B : Base} {k : Nat} {F : FI} {vars : List (Option V)} {H : Hp} {i j : Int} {x y : Str}
theorem sl_rev {a : Addr} {xs : List V} {Φ : V → Hp → Prop} (hl : Lst H a xs) (hz : xs.length ≤ sizeLine) (h : ∀ b, H b = none → Φ (.ref b) (put H b (.list xs.reverse))) : WSl B k (.ref a) .none .none (.int (-1)) H Φ :=
  sl_list (lo := none) (hi := none) (st := some (-1)) hl hz (by simp) (fun vs ia => ⟨_, krv_pick _, ia.reverse⟩) h
theorem are_pick {ns : List Int} {vs : List Value} (ia : Are (vI ns) vs) (idx : List Nat) : ∃ ms : List Int, Are (vI ms) (idx.filterMap (vs.toArray[·]?)) := by
  induction idx with
  | nil => exact ⟨[], .nil⟩
  | cons a r ih =>
    obtain ⟨ms, hm⟩ := ih
    rw [List.filterMap_cons]
    cases e : vs.toArray[a]? with
    | none => exact ⟨ms, hm⟩
    | some v =>
      have e' : vs[a]? = some v := by simpa using e
      have hlt : a < ns.length := by
        have := (List.getElem?_eq_some_iff.mp e').1
        rw [← ia.length] at this; simpa using this
      obtain ⟨w, hw, iw⟩ := ia.get (i := a) (x := .int ns[a]) (by simp [hlt])
      rw [e'] at hw; cases hw
      exact ⟨ns[a] :: ms, .cons iw hm⟩
/-- every so many-th item of a list of ints -/
theorem sl_step {a : Addr} {ns : List Int} {n : Nat} {st : Int} {Φ : V → Hp → Prop} (hl : Lst H a (vI ns)) (hz : ns.length ≤ sizeLine) (h0 : st ≠ 0) (h : ∀ b ms, H b = none → Φ (.ref b) (put H b (.list (vI ms)))) : WSl B k (.ref a) .none (.int n) (.int st) H Φ := by
  rintro A P s _ vl vu vt sl r ib o ⟨⟩ il iu it hs
  obtain ⟨vs, m, ia, e⟩ := hl P s o
  obtain ⟨ms, hm⟩ := are_pick ia (sliceRange (sliceBounds none (some (n : Int)) (some st) vs.toArray.size).1 (sliceBounds none (some (n : Int)) (some st) vs.toArray.size).2.1 (sliceBounds none (some (n : Int)) (some st) vs.toArray.size).2.2)
  refine ⟨.of e.isList.typeIs slot_list_getitem.lookup, wpAny_getItem_list_slice (lo := none) (hi := some (n : Int)) (st := some st) e.isList ⟨_, hs, rfl, rfl⟩ (part_of il rfl) (part_of iu rfl) (part_of it rfl) (by simpa using h0) ?_ (by simpa [← ia.length] using hz)⟩
  exact ⟨_, _, .ref _, o.pushH (.list 0 hm) _, h _ ms o.newH⟩
/-- a text's part -/
theorem sl_str {lo hi : Option Int} {Φ : V → Hp → Prop} (hz : x.length ≤ sizeLine) (h : Φ (.str (Txt.slice x lo hi)) H) : WSl B k (.str x) (pV lo) (pV hi) .none H Φ := by
  rintro A P s _ vl vu vt sl r ib o hx il iu it hs
  cases hx; cases it
  have hp : ∀ {l : Option Int} {v : Value}, Is (pV l) v → ∃ l' : Option (Int × Tok), v = partValue l' ∧ l'.map (·.1) = l := fun {l v} i => by
    cases l with
    | none => cases i; exact ⟨none, rfl, rfl⟩
    | some z => cases i; exact ⟨some (z, _), rfl, rfl⟩
  obtain ⟨l, rfl, rfl⟩ := hp il
  obtain ⟨u, rfl, rfl⟩ := hp iu
  refine ⟨.of (typeIs_str _ _ _) PySem.F.slot_str_getitem.lookup, wpAny_getItem_str_slice (l := l) (u := u) (st := none) ⟨_, hs, rfl, rfl⟩ rfl (post_val_or_str ⟨Nat.le_trans (Txt.slice_le x _ _) hz, fun t' tk => ⟨_, _, .str _ _, o.toks _, h⟩⟩)⟩

theorem slice_from {a : Nat} (ha : a ≤ x.length) : Txt.slice x (some a) none = ⟨(x.cps.toList.drop a).toArray⟩ := by
  have := StrLaws.sliceText_from (x := x) (i := a) ⟨by omega, by simpa [Str.length] using ha⟩
  have e : Txt.slice x (some (a : Int)) none = StrLaws.sliceText x (some (a : Int)) none := rfl
  rw [e, this]
  congr 2
  rw [List.take_of_length_le (by rw [List.length_drop]; omega)]
  simp

end
end Mine
end
noncomputable section
open PySem PySem.W PyProof.Rows
namespace Mine
def sBody : Stmt → List Stmt | .FunctionDef _ _ b .. => b | _ => []
def sArgs : Stmt → Arguments | .FunctionDef _ a .. => a | _ => { posonlyargs := [], args := [], vararg := none, kwonlyargs := [], kw_defaults := [], kwarg := none, defaults := [] }
def sScope : Stmt → Scope | .FunctionDef (scope := s) .. => s | _ => { kind := .function, names := [], isGenerator := false, isCoroutine := false, more := [] }
section
variable {B : Base} {k : Nat} {F : FI} {vars : List (Option V)} {H : Hp}
theorem thenDo_next {rest : List Stmt} {Φ : Fl → List (Option V) → Hp → Prop} (h : WSs B k F rest vars H Φ) : thenDo B k F rest Φ .next vars H := h
theorem thenDo_ret {v : V} {rest : List Stmt} {Φ : Fl → List (Option V) → Hp → Prop} (h : Φ (.ret v) vars H) : thenDo B k F rest Φ (.ret v) vars H := h
theorem turn_next {Inv : List (Option V) → Hp → Prop} {Ψ : Fl → List (Option V) → Hp → Prop} (h : Inv vars H) : turnEnd Inv Ψ .next vars H := h
theorem turn_ret {v : V} {Inv : List (Option V) → Hp → Prop} {Ψ : Fl → List (Option V) → Hp → Prop} (h : Ψ (.ret v) vars H) : turnEnd Inv Ψ (.ret v) vars H := h
/-- what a def hands back -/
def retV (Φ : V → Hp → Prop) (f : Fl) (_ : List (Option V)) (H : Hp) : Prop := match f with | .ret v => Φ v H | _ => Φ .none H
theorem retV_ret {v : V} {Φ : V → Hp → Prop} (h : Φ v H) : retV Φ (.ret v) vars H := h
theorem retV_next {Φ : V → Hp → Prop} (h : Φ .none H) : retV Φ .next vars H := h
theorem WBs.cons {x : Str} {v : V} {r : List (Str × V)} {Φ : List (Option V) → Hp → Prop} (h : WSt B k F x v vars H fun vars1 H1 => WBs B k F r vars1 H1 Φ) : WBs B k F ((x, v) :: r) vars H Φ := h
theorem WBs.nil {Φ : List (Option V) → Hp → Prop} (h : Φ vars H) : WBs B k F [] vars H Φ := h
theorem WPt.none {Φ : V → Hp → Prop} (h : Φ .none H) : WPt B k F Option.none vars H Φ := h
theorem WPt.some {e : PySem.Expr} {Φ : V → Hp → Prop} (h : WE B k F e vars H Φ) : WPt B k F (Option.some e) vars H Φ := h
theorem WIf.nil {Φ : Bool → Hp → Prop} (h : Φ true H) : WIf B k F [] vars H Φ := h
theorem WIf.one {c : PySem.Expr} {Φ : Bool → Hp → Prop} (h : WT B k F c vars H Φ) : WIf B k F [c] vars H Φ := h
end
theorem cs_nil {sc : Scope} (h : celNames sc.names = []) {cs : List Addr} (hl : cs.length = (celNames sc.names).length) : cs = [] := by rw [h] at hl; exact List.eq_nil_of_length_eq_zero hl
/-- a call of a def without cells of its own -/
theorem WC.def0 {B : Base} {k : Nat} {H : Hp} {a : Addr} {st : Stmt} {dv kdv : Value} {names : List Str} {vs0 : List (Option V)} {args : List V} {bs : List (Str × V)} {Φ : V → Hp → Prop} {s1 : Stmt} {body : List Stmt}
    (D : DefAt B a (sArgs st) (sBody st) (sScope st) dv kdv) (L : Looks (sScope st) names vs0) (hb : Binding B (sArgs st) dv kdv [] args bs) (hc : celNames (sScope st).names = []) (hbd : sBody st = s1 :: body)
    (h : WBs B k ⟨sScope st, names, [], none⟩ bs vs0 H fun vars H1 => WSs B k ⟨sScope st, names, [], none⟩ (s1 :: body) vars H1 (retV Φ)) : WC B (k + 1) (.ref a) args H Φ := by
  refine WC.def D L hb fun cs h1 h2 h3 h6 => ?_
  obtain rfl := cs_nil hc h1
  rw [hc, ← hbd] at *
  exact h
/-- how plain arguments go to the names -/
theorem binding_plain {B : Base} {ps : Arguments} {names : List Str} {args : List V} (hl : names.length = args.length)
    (hn : ∀ vals : List Value, vals.length = names.length → ∀ fd : FuncData, fd.params = ps → fd.defaults = .none → fd.kwdefaults = .none → bindArgs fd ⟨vals, []⟩ = pure (names.zip vals)) : Binding B ps .none .none [] args (names.zip args) := by
  intro fd P H s kvals vals hp hd hk ib o ar hkl
  have : kvals = [] := List.eq_nil_of_length_eq_zero hkl
  subst this
  have hlv : vals.length = names.length := by rw [hl, ar.length]; rfl
  refine ⟨names.zip vals, BindsTo.of_eq (hn vals hlv fd hp hd hk), ?_⟩
  clear hn hl hlv
  have ar' : Are args vals := ar
  clear ar
  induction ar' generalizing names with
  | nil => rw [List.zip_nil_right, List.zip_nil_right]; exact .nil
  | cons a b ih => cases names with
    | nil => exact .nil
    | cons n ns => exact .cons a (ih (names := ns))
abbrev vN (ns : List Nat) : List V := ns.map fun n : Nat => V.int n
theorem vN_vI (ns : List Nat) : vN ns = vI (ns.map Int.ofNat) := by simp [vN, vI]
theorem bin_divn {B : Base} {k i j : Nat} {H : Hp} {Φ : V → Hp → Prop} (hj : 0 < j) (hi : j < 2 ^ 30) (h : Φ (.int ((i / j : Nat) : Int)) H) : WBin B k .FloorDiv (.int i) (.int j) H Φ := by
  refine bin_div (by omega) (PyProof.noPylong_small (by rw [Int.natAbs_natCast]; omega)) ?_
  rw [Int.fdiv_eq_ediv_of_nonneg _ (by omega)]
  exact h
theorem bin_modn {B : Base} {k i j : Nat} {H : Hp} {Φ : V → Hp → Prop} (hj : 0 < j) (h : Φ (.int ((i % j : Nat) : Int)) H) : WBin B k .Mod (.int i) (.int j) H Φ := by
  refine bin_mod (by omega) ?_
  rw [Int.fmod_eq_emod_of_nonneg _ (by omega)]
  exact h
end Mine
end
noncomputable section
open PySem PySem.W PyProof.Rows
namespace Mine
theorem Ext.self {H : Hp} {t : Addr} (n : H t = none) (o : O) : Ext H (Mine.put H t o) := (Ext.refl H).put o n
/-! what is made new -/
section
variable {B : Base} {k : Nat} {F : FI} {vars : List (Option V)} {H : Hp} {i j : Int}
abbrev Nu (H : Hp) (o : O) (Φ : V → Hp → Prop) : Prop := ∀ a H', H a = none → Ext H H' → H' a = some o → Φ (.ref a) H'
theorem Nu.out {o : O} {Φ : V → Hp → Prop} (h : Nu H o Φ) (a : Addr) (ha : H a = none) : Φ (.ref a) (put H a o) := h a _ ha (Ext.self ha _) (put_self _ _ _)
theorem WEs.mono {es : List PySem.Expr} {Φ Ψ : List V → Hp → Prop} (h : WEs B k F es vars H Φ) (g : ∀ v H', Φ v H' → Ψ v H') : WEs B k F es vars H Ψ :=
  fun A env P s pos r i f o => noE (h A env P s pos r i f o) fun _ _ ⟨v, H', a, b, c, d⟩ => ⟨v, H', a, b, c, g _ _ d⟩
theorem WE.listN {es : List PySem.Expr} {pos : Pos} {Φ : V → Hp → Prop} (h : WEs B k F es vars H fun vs H1 => vs.length ≤ sizeLine ∧ Nu H1 (.list vs) Φ) : WE B k F (.List es pos) vars H Φ :=
  .list (h.mono fun _ _ q => ⟨q.1, q.2.out⟩)
theorem WE.tupN {es : List PySem.Expr} {n : Nat} {pos : Pos} {Φ : V → Hp → Prop} (h : WEs B k F es vars H fun vs H1 => vs.length ≤ sizeLine ∧ Nu H1 (.tup vs) Φ) : WE B k F (.Tuple es n pos) vars H Φ :=
  .tup (h.mono fun _ _ q => ⟨q.1, q.2.out⟩)
theorem call_range1N {Φ : V → Hp → Prop} (h : Nu H (.rng 0 i 1) Φ) : WC B k (.type "range") [.int i] H Φ := call_range1 h.out
theorem call_range2N {Φ : V → Hp → Prop} (h : Nu H (.rng i j 1) Φ) : WC B k (.type "range") [.int i, .int j] H Φ := call_range2 h.out

theorem list_addN {a b : Addr} {xs ys : List V} {Φ : V → Hp → Prop} (ha : Lst H a xs) (hb : Lst H b ys) (hz : xs.length + ys.length ≤ sizeLine) (h : Nu H (.list (xs ++ ys)) Φ) : WBin B k .Add (.ref a) (.ref b) H Φ := list_add ha hb hz h.out

theorem sl_uptoN {a : Addr} {xs : List V} {n : Nat} {Φ : V → Hp → Prop} (hl : Lst H a xs) (hz : xs.length ≤ sizeLine) (h : Nu H (.list (xs.take n)) Φ) : WSl B k (.ref a) .none (.int n) .none H Φ := sl_upto hl hz h.out

theorem sl_allN {a : Addr} {xs : List V} {Φ : V → Hp → Prop} (hl : Lst H a xs) (hz : xs.length ≤ sizeLine) (h : Nu H (.list xs) Φ) : WSl B k (.ref a) .none .none .none H Φ := sl_all hl hz h.out

theorem sl_revN {a : Addr} {xs : List V} {Φ : V → Hp → Prop} (hl : Lst H a xs) (hz : xs.length ≤ sizeLine) (h : Nu H (.list xs.reverse) Φ) : WSl B k (.ref a) .none .none (.int (-1)) H Φ := sl_rev hl hz h.out
theorem CompOk.new {F' : FI} {vs0 : List (Option V)} {elt target : PySem.Expr} {ifs : List PySem.Expr} {Ψ : Addr → Hp → Prop} {n : Nat} {Req : Hp → Prop} {Item : Nat → Hp → V → Hp → Prop} {H1 : Hp} (Inv : Nat → List V → Hp → Prop) (hn : n ≤ sizeLine) (h0 : Inv 0 [] H1) (hr : ∀ i v H, Inv i v H → Req H)
    (ht : ∀ i out H v H1, i < n → Inv i out H → Item i H v H1 → WA B k F' target v vs0 H1 fun v2 H2 => WIf B k F' ifs v2 H2 fun b H3 =>
      (b = true → WE B k F' elt v2 H3 fun x H4 => Inv (i + 1) (out ++ [x]) H4) ∧ (b = false → Inv (i + 1) out H3))
    (hf : ∀ out H' D H'', Inv n out H' → H' D = none → Ext H' H'' → H'' D = some (.list out) → Ψ D H'') : CompOk B k F' vs0 elt target ifs Ψ n Req Item H1 :=
  ⟨hn, Inv, hr, h0, ht, fun out H' D hI hD => hf out H' D _ hI hD (Ext.self hD _) (put_self _ _ _)⟩
theorem WIt.rangeN {ie : PySem.Expr} {Ψ : Nat → (Hp → Prop) → (Nat → Hp → V → Hp → Prop) → Hp → Prop} (a b c : Int)
    (h : WE B k F ie vars H fun v H1 => ∃ r, v = .ref r ∧ H1 r = some (.rng a b c) ∧ Builtin.Range.small a b c = true ∧ 0 ≤ Builtin.Range.rangeSize a b c ∧ Ψ (rgCount a b c) (fun _ => True) (fun i H v H' => v = .int (a + i * c) ∧ H' = H) H1) : WIt B k F ie vars H Ψ :=
  .range (h.mono fun _ _ ⟨r, p1, p2, p3, p4, p5⟩ => ⟨r, a, b, c, p1, p2, p3, p4, p5⟩)
end
theorem mem_le_sum : ∀ {l : List Nat} {n : Nat}, n ∈ l → n ≤ l.sum
  | a :: r, n, h => by
    rw [List.sum_cons]
    rcases List.mem_cons.mp h with rfl | h
    · omega
    · have := mem_le_sum h; omega

theorem eq_nats {B : Base} {k : Nat} {H : Hp} {a b : Addr} {ns ms : List Nat} {Φ : V → Hp → Prop} (ha : H a = some (.list (vN ns))) (hb : H b = some (.list (vN ms))) (h : Φ (.bool (decide (ns = ms))) H) : WCmp B k .Eq (.ref a) (.ref b) H Φ := by
  refine eq_ints (ns := ns.map Int.ofNat) (ms := ms.map Int.ofNat) (.of (by rw [ha, vN_vI])) (.of (by rw [hb, vN_vI])) ?_
  have : (ns.map Int.ofNat = ms.map Int.ofNat) ↔ ns = ms := List.map_inj_right fun _ _ => Int.ofNat.inj
  rw [decide_eq_decide.mpr this]; exact h
theorem ne_nats {B : Base} {k : Nat} {H : Hp} {a b : Addr} {ns ms : List Nat} {Φ : V → Hp → Prop} (ha : H a = some (.list (vN ns))) (hb : H b = some (.list (vN ms))) (h : Φ (.bool (!decide (ns = ms))) H) : WCmp B k .NotEq (.ref a) (.ref b) H Φ := by
  refine ne_ints (ns := ns.map Int.ofNat) (ms := ms.map Int.ofNat) (.of (by rw [ha, vN_vI])) (.of (by rw [hb, vN_vI])) ?_
  have : (ns.map Int.ofNat = ms.map Int.ofNat) ↔ ns = ms := List.map_inj_right fun _ _ => Int.ofNat.inj
  rw [decide_eq_decide.mpr this]; exact h
theorem at_nat {ns : List Nat} {i n : Nat} (h : ns[i]? = some n) : (vN ns)[((i : Nat) : Int).toNat]? = some (.int (n : Int)) := by simp [vN, h]
theorem set_nat {B : Base} {k : Nat} {H : Hp} {a : Addr} {ns : List Nat} {i n : Nat} {Φ : Hp → Prop} (hl : H a = some (.list (vN ns))) (hi : i < ns.length) (hz : ns.length ≤ 1000) (h : Φ (put H a (.list (vN (ns.set i n))))) : WSet B k (.ref a) (.int i) (.int n) H Φ := by
  refine set_list hl (by omega) (by omega) (by simp; omega) ?_
  have : (vN ns).set ((i : Nat) : Int).toNat (.int (n : Int)) = vN (ns.set i n) := by simp [vN]
  rw [this]; exact h
theorem item_nat {B : Base} {k : Nat} {H : Hp} {a : Addr} {ns : List Nat} {i n : Nat} {Φ : V → Hp → Prop} (hl : H a = some (.list (vN ns))) (hn : ns[i]? = some n) (hz : ns.length ≤ 1000) (h : Φ (.int (n : Int)) H) : WItem B k (.ref a) (.int i) H Φ := by
  have := (List.getElem?_eq_some_iff.mp hn).1
  exact item_list (.of hl) (by omega) (by omega) (at_nat hn) h
theorem append_nat {B : Base} {k : Nat} {H : Hp} {a : Addr} {ns : List Nat} {n : Nat} {Φ : V → Hp → Prop} (hl : H a = some (.list (vN ns))) (hz : ns.length ≤ 1000) (h : Φ .none (put H a (.list (vN (ns ++ [n]))))) : WC B k (.builtin "list.append") [.ref a, .int n] H Φ := by
  refine call_append hl (by simp; show ns.length ≤ 1 <<< 24; omega) ?_
  have : vN ns ++ [V.int (n : Int)] = vN (ns ++ [n]) := by simp [vN]
  rw [this]; exact h
theorem pop_nat {B : Base} {k : Nat} {H : Hp} {a : Addr} {ns : List Nat} {n : Nat} {Φ : V → Hp → Prop} (hl : H a = some (.list (vN (ns ++ [n])))) (hz : ns.length ≤ 1000) (h : Φ (.int (n : Int)) (put H a (.list (vN ns)))) : WC B k (.builtin "list.pop") [.ref a] H Φ := by
  refine call_pop (xs := vN ns) (v := .int n) (by rw [hl]; simp [vN]) (by simp; show ns.length < 1 <<< 24; omega) h
theorem len_nat {B : Base} {k : Nat} {H : Hp} {a : Addr} {ns : List Nat} {Φ : V → Hp → Prop} (hl : H a = some (.list (vN ns))) (hz : ns.length ≤ 1000) (h : Φ (.int ((ns.length : Nat) : Int)) H) : WC B k (.builtin "len") [.ref a] H Φ := by
  refine call_len hl (by simp; omega) ?_
  rw [List.length_map]; exact h
abbrev pile (rs : List (List Nat)) (κ : Nat) : List Nat := rs.getD κ []
/-! rows of ints, in the heap -/
structure Rows (H0 H : Hp) (p : Addr) (as : List Addr) (rs : List (List Nat)) : Prop where
  top : H p = some (.list (as.map V.ref))
  rows : ∀ (i : Nat) a, as[i]? = some a → ∃ r, rs[i]? = some r ∧ H a = some (.list (vN r))
  nd : as.Nodup
  np : p ∉ as
  new : ∀ a ∈ as, H0 a = none
  len : as.length = rs.length
theorem Rows.get {H0 H : Hp} {p : Addr} {as : List Addr} {rs : List (List Nat)} (R : Rows H0 H p as rs) {κ : Nat} (h : κ < rs.length) : ∃ a, as[κ]? = some a ∧ H a = some (.list (vN (pile rs κ))) := by
  have h' : κ < as.length := by rw [R.len]; exact h
  refine ⟨as[κ], List.getElem?_eq_getElem h', ?_⟩
  obtain ⟨r, h1, h2⟩ := R.rows κ as[κ] (List.getElem?_eq_getElem h')
  rw [h2]
  unfold pile
  rw [List.getD_eq_getElem?_getD, h1]; rfl
theorem Rows.at {H0 H : Hp} {p : Addr} {as : List Addr} {rs : List (List Nat)} (_ : Rows H0 H p as rs) {κ : Nat} {a : Addr} (h : as[κ]? = some a) : (as.map V.ref)[((κ : Nat) : Int).toNat]? = some (.ref a) := by simp [h]
theorem Rows.set {H0 H : Hp} {p : Addr} {as : List Addr} {rs : List (List Nat)} (R : Rows H0 H p as rs) {κ : Nat} {a : Addr} (h : as[κ]? = some a) (r : List Nat) : Rows H0 (put H a (.list (vN r))) p as (rs.set κ r) := by
  have hm : a ∈ as := List.mem_of_getElem? h
  have hlt := (List.getElem?_eq_some_iff.mp h).1
  refine ⟨by rw [put_ne _ _ (by rintro rfl; exact R.np hm)]; exact R.top, fun i b hb => ?_, R.nd, R.np, R.new, by rw [List.length_set]; exact R.len⟩
  by_cases e : i = κ
  · subst e
    rw [h] at hb; cases hb
    exact ⟨r, by rw [List.getElem?_set_self (by rw [← R.len]; exact hlt)], put_self _ _ _⟩
  · obtain ⟨r', h1, h2⟩ := R.rows i b hb
    refine ⟨r', by rw [List.getElem?_set_ne (Ne.symm e)]; exact h1, ?_⟩
    rw [put_ne _ _ (by rintro rfl; exact e (nodup_get R.nd hb h))]; exact h2
theorem Rows.ext {H0 H H' : Hp} {p : Addr} {as : List Addr} {rs : List (List Nat)} (R : Rows H0 H p as rs) (e : Ext H H') : Rows H0 H' p as rs :=
  ⟨e _ _ R.top, fun i a h => let ⟨r, h1, h2⟩ := R.rows i a h; ⟨r, h1, e _ _ h2⟩, R.nd, R.np, R.new, R.len⟩
theorem Rows.ne {H0 H : Hp} {p : Addr} {as : List Addr} {rs : List (List Nat)} (R : Rows H0 H p as rs) {b : Addr} (hb : b ∉ as) (hp : b ≠ p) (o : O) : Rows H0 (put H b o) p as rs :=
  ⟨by rw [put_ne _ _ (Ne.symm hp)]; exact R.top, fun i a h => let ⟨r, h1, h2⟩ := R.rows i a h; ⟨r, h1, by rw [put_ne _ _ (by rintro rfl; exact hb (List.mem_of_getElem? h))]; exact h2⟩, R.nd, R.np, R.new, R.len⟩
end Mine
end
open PySem PySem.W PyProof.Rows
noncomputable section
namespace Mine
set_option maxHeartbeats 0
local macro_rules | `(tactic| walk_at "AT") => `(tactic| (with_reducible (repeat (first | exact At.head | exact SetAt.head | apply At.tail | apply SetAt.tail)); done))
local macro_rules | `(tactic| walk_at "M") => `(tactic| with_reducible (first
  | refine WE.int ?_ | refine WE.str ?_ | refine WE.cnone ?_ | refine WE.bool ?_ | refine WE.loc (by walk_at "AT") ?_ | refine WE.cel (by (repeat (first | exact List.mem_cons_self | apply List.mem_cons_of_mem)); first | done | fail) (by assumption) ?_ | refine WE.blt (by first | decide +kernel | (dsimp only; decide +kernel)) (by assumption) (by assumption) ?_ | refine WE.glo (by first | decide +kernel | (dsimp only; decide +kernel)) (by assumption) ?_ | refine WE.bin ?_ | refine WT.cmp ?_ | refine WE.cmp ?_ | refine WT.not ?_ | refine WE.ifx ?_ | refine WE.neg ?_ | refine bin_add ?_ | refine bin_sub ?_ | refine cmp_lt ?_ | refine cmp_gt ?_ | refine cmp_ge ?_ | refine cmp_eq ?_ | refine cmp_ne ?_ | refine cmp_eqs ?_ | refine cmp_nes ?_ | refine tr_bool ?_ | refine inp_add ?_ | refine inp_sub ?_ | refine WSs.ife ?_ | refine WSs.assign ?_ | refine WSs.aug (by walk_at "AT") ?_ | refine WSt.loc (by walk_at "AT") ?_ | refine WSs.nil ?_ | refine WSs.ret ?_ | refine WSs.expr ?_ | refine thenDo_next ?_ | refine thenDo_ret ?_ | refine turn_next ?_ | refine turn_ret ?_ | refine retV_ret ?_ | refine retV_next ?_ | refine WBs.cons ?_ | refine WBs.nil ?_ | refine WPt.none ?_ | refine WPt.some ?_ | refine WIf.nil ?_ | refine WIf.one ?_ | refine WEs.cons ?_ | refine WEs.nil ?_ | refine WE.call ?_ | refine call_range1N ?_ | refine call_range2N ?_ | (refine And.intro Callee.blt (fun _ i => ?_); cases i) | (refine And.intro Callee.typ (fun _ i => ?_); cases i) | refine WE.slice ?_ | refine WE.append ?_ | refine WE.pop ?_ | refine WE.join ?_ | refine WE.index ?_ | refine WE.get ?_ | refine WE.sub ?_ | refine WAs.cons ?_ | refine WAs.nil ?_ | refine WSs.assignT ?_ | refine WA.name ?_ | refine WA.sub ?_ | refine WE.listN ?_ | refine WE.tupN ?_ | refine And.intro (fun hc => absurd hc (by decide)) (fun _ => ?_) | refine And.intro (fun _ => ?_) (fun hc => absurd hc (by decide))))
local macro_rules | `(tactic| walk_at "CL") => `(tactic| exact ⟨by decide +kernel, by decide +kernel, by decide +kernel, by first | rfl | decide +kernel, by first | rfl | decide +kernel, by decide +kernel, by decide +kernel, by decide +kernel, by decide +kernel, by decide +kernel, by rfl, by decide +kernel⟩)
local macro_rules | `(tactic| walk_at "LK") => `(tactic| exact ⟨by decide +kernel, by decide +kernel, by decide +kernel, by decide +kernel, by rfl⟩)
local macro_rules | `(tactic| walk_at "B1") => `(tactic| (intro vals hv fd hp hd hk; obtain ⟨v, e⟩ := List.length_eq_one_iff.mp hv; subst e; unfold bindArgs; rw [hp, hd]; rfl))
local macro_rules | `(tactic| walk_at "B2") => `(tactic| (intro vals hv fd hp hd hk; obtain ⟨v, u, e⟩ := List.length_eq_two.mp hv; subst e; unfold bindArgs; rw [hp, hd]; rfl))
local macro_rules | `(tactic| walk_at "SW") => `(tactic| (intro env h; obtain ⟨⟩ := env; cases h; rfl))
section
def at2 (n : Nat) : Stmt := PySem.Challenge.pw_sl0019_02.main.body.getD n (.Pass ⟨0, 0, 0, 0⟩)
/-- a def of the program -/
abbrev Def2 (B : Base) (n : Nat) (a : Addr) (dv kdv : Value) (g : Bool := false) : Prop := DefAt B a (sArgs (at2 n)) (sBody (at2 n)) (sScope (at2 n)) dv kdv g
theorem br_looks : Looks (sScope (at2 5)) ["a", "x", "lo", "hi", "key", "mid"] [none, none, none, none, none, none] where
  nd := by decide +kernel
  lo := by decide +kernel
  cel := by decide +kernel
  cn := by decide +kernel
  vs := by rfl
theorem bl_looks : Looks (sScope (at2 6)) ["a", "x", "lo", "hi", "key", "mid"] [none, none, none, none, none, none] where
  nd := by decide +kernel
  lo := by decide +kernel
  cel := by decide +kernel
  cn := by decide +kernel
  vs := by rfl
def goR (ns : List Nat) (n : Nat) : Nat → Nat → Nat → Nat
  | 0, lo, _ => lo
  | f + 1, lo, hi => if lo < hi then (if n < ns.getD ((lo + hi) / 2) 0 then goR ns n f lo ((lo + hi) / 2) else goR ns n f ((lo + hi) / 2 + 1) hi) else lo
def bisR (ns : List Nat) (n : Nat) : Nat := goR ns n ns.length 0 ns.length
def goL (ns : List Nat) (n : Nat) : Nat → Nat → Nat → Nat
  | 0, lo, _ => lo
  | f + 1, lo, hi => if lo < hi then (if ns.getD ((lo + hi) / 2) 0 < n then goL ns n f ((lo + hi) / 2 + 1) hi else goL ns n f lo ((lo + hi) / 2)) else lo

structure Bis (B : Base) (n a : Nat) (s : Str) : Prop where
  mg : B.mg s = some (.ref a)
  len : B.mg "len" = none
  len' : B.mb "len" = some (.builtin "len")
  df : ∃ dv kdv, Def2 B n a dv kdv ∧ ∀ x y, Binding B (sArgs (at2 n)) dv kdv [] [x, y] [("a", x), ("x", y), ("lo", .int 0), ("hi", .none), ("key", .none)]
theorem vN_get {ns : List Nat} {i : Nat} (h : i < ns.length) : (vN ns)[((i : Nat) : Int).toNat]? = some (.int ((ns.getD i 0 : Nat) : Int)) := by
  simp [vN, h, List.getD]
theorem br_ok {B : Base} {k a : Nat} (g : Bis B 5 a "bisect_right") {H : Hp} {l : Addr} {ns : List Nat} {n : Nat} {Φ : V → Hp → Prop} (hl : H l = some (.list (vN ns))) (hz : ns.length ≤ 1000) (h : Φ (.int (bisR ns n)) H) :
    WC B (k + 1) (.ref a) [.ref l, .int n] H Φ := by
  obtain ⟨dv, kdv, D, hb⟩ := g.df
  refine WC.def0 D br_looks (hb _ _) (by decide +kernel) (by with_unfolding_all rfl) ?_
  have m1 := g.len
  have m2 := g.len'
  repeat walk_at "M"
  refine cmp_is (b := true) (by rintro v ⟨⟩; rfl) ?_
  repeat walk_at "M"
  refine call_len hl (by simp; omega) ?_
  repeat walk_at "M"
  refine cmp_is (b := true) (by rintro v ⟨⟩; rfl) ?_
  repeat walk_at "M"
  refine WSs.while (fun m vars H' => H' = H ∧ ∃ (lo hi : Nat) (o : Option V), vars = [some (V.ref l), some (V.int n), some (V.int lo), some (.int hi), some .none, o] ∧ lo ≤ hi ∧ hi ≤ ns.length ∧ hi - lo ≤ m ∧ goR ns n m lo hi = bisR ns n) ns.length ?_ ?_
  · exact ⟨rfl, 0, ns.length, none, by simp, by omega, by omega, by omega, rfl⟩
  rintro m vars H' ⟨rfl, lo, hi, o, rfl, h1, h2, h3, h4⟩
  repeat walk_at "M"
  refine ⟨fun hc => ?_, fun hc => ?_⟩
  · have hlt : lo < hi := by simpa using hc
    obtain ⟨m, rfl⟩ : ∃ m', m = m' + 1 := ⟨m - 1, by omega⟩
    rw [goR, if_pos hlt] at h4
    repeat walk_at "M"
    refine bin_divn (i := lo + hi) (j := 2) (by omega) (by omega) ?_
    repeat walk_at "M"
    refine item_list (.of hl) (by omega) (by omega) (vN_get (by omega)) ?_
    repeat walk_at "M"
    refine ⟨fun hc => ?_, fun hc => ?_⟩
    · rw [if_pos (by simpa using hc)] at h4
      repeat walk_at "M"
      exact ⟨m, by omega, rfl, lo, (lo + hi) / 2, _, rfl, by omega, by omega, by omega, h4⟩
    · rw [if_neg (by simpa using hc)] at h4
      repeat walk_at "M"
      exact ⟨m, by omega, rfl, (lo + hi) / 2 + 1, hi, _, rfl, by omega, by omega, by omega, h4⟩
  · have hlt : ¬ lo < hi := by simpa using hc
    have : lo = bisR ns n := by
      rw [← h4]
      cases m with
      | zero => rfl
      | succ m => rw [goR, if_neg hlt]
    repeat walk_at "M"
    rw [this]; exact h

end
section
theorem Ext.new {H H' : Hp} (h : Ext H H') {t : Addr} (n : H' t = none) : H t = none := by
  cases e : H t with
  | none => rfl
  | some o => rw [h t o e] at n; cases n
theorem Ext.putNew {H H' : Hp} (h : Ext H H') {t : Addr} (n : H' t = none) (o : O) : Ext H (Mine.put H' t o) := h.put o (h.new n)
theorem put_get {H : Hp} {t r : Addr} {o v : O} (hr : H r = some v) (ht : H t = none) : put H t o r = some v := by
  rw [put_ne _ _ (by rintro rfl; rw [hr] at ht; cases ht)]; exact hr
theorem ne_of {H : Hp} {t r : Addr} {v : O} (hr : H r = some v) (ht : H t = none) : r ≠ t := by rintro rfl; rw [hr] at ht; cases ht
theorem escs_length : ∀ (l : List Nat) (i : Nat) (b : Bool), (escs i b l).length ≤ l.length
  | [], _, _ => by unfold escs; simp
  | c :: r, i, true => by unfold escs; simp only [List.length_cons]; have := escs_length r (i + 1) false; omega
  | c :: r, i, false => by
    unfold escs
    split
    · have := escs_length r (i + 1) true; simp only [List.length_cons]; omega
    · simp only [List.length_cons]; have := escs_length r (i + 1) false; omega

theorem WS.assign {B : Base} {k : Nat} {F : FI} {vars : List (Option V)} {H : Hp} {x : Str} {p pos : Pos} {e : PySem.Expr} {Φ : Fl → List (Option V) → Hp → Prop} (h : WE B k F e vars H fun v H1 => WSt B k F x v vars H1 fun v1 H2 => Φ .next v1 H2)
    (hs : ∀ env : Env, env.scope = F.sc → swapsWith e (some (.Name x p)) pos.line env = pure false := by intro _ _; with_unfolding_all rfl) : WS B k F (.Assign [.Name x p] e pos) vars H Φ := fun A env P s r i f o => by
  refine wpAny_Assign_Name (wpAny_mono (h A env P s r i f o) ?_ fun _ _ f => f.elim) (hs env f.sc)
  rintro val s1 ⟨v, H1, ia, f1, o1, h1⟩
  refine wpAny_mono (h1 A env P s1 val r i f1 o1 ia) ?_ fun _ _ f => f.elim
  rintro _ s2 ⟨v2, H2, f2, o2, h2⟩
  exact ⟨_, _, _, .next, f2, o2, h2⟩

/-! the generator -/
theorem gen_def {B : Base} {a0 : Addr} (D : Def2 B 1 a0 .none .none true) (m1 : B.mg "enumerate" = none) (m2 : B.mb "enumerate" = some (.type "enumerate")) (k : Nat) : GenDef B a0 k := by
  refine ⟨_, _, ["addr", "pos", "escape", "ch"], "addr", "pos", "escape", "enumerate", "addr", _, _, _, _, _, _, _, _, _, _, _, _, _, _, _, _, _, _, _, _, _, _, _, _, _, _, _, _, _, _, _, _, D, ⟨by decide +kernel, by decide +kernel, by decide +kernel, by decide +kernel, by rfl⟩, by decide +kernel, fun x => ?_, fun x => .head, fun x => ?_⟩
  · refine binding_plain (names := ["addr"]) rfl fun vals hv fd hp hd hk => ?_
    obtain ⟨v, rfl⟩ := List.length_eq_one_iff.mp hv
    unfold bindArgs; rw [hp, hd]; rfl
  · constructor
    · exact .tail .head
    · exact .tail (.tail .head)
    · exact ⟨by decide +kernel, m1, m2, by decide +kernel⟩
    · exact ⟨.head, by decide +kernel⟩
    · exact fun env => ⟨rfl, rfl⟩
    · intro p e c i ch; repeat walk_at "M"
      rfl
    · intro p e c; refine WT.plain ?_; repeat walk_at "M"
      rfl
    · intro i e c; repeat walk_at "M"
      refine bin_adds (by show 2 ≤ sizeLine; decide +kernel) ?_
      repeat walk_at "M"
      exact ⟨by show 2 ≤ sizeLine; decide +kernel, fun a _ _ _ e => ⟨a, rfl, e⟩⟩
    · intro p e c
      refine WS.assign ?_
      repeat walk_at "M"
      exact ⟨rfl, rfl⟩
    · intro p e c; repeat walk_at "M"
      rw [decide_eq_decide]
      have : Str.ofString "\\" = ⟨#[92]⟩ := by decide +kernel
      rw [this]
      constructor
      · intro h; injection h with h; simpa using h
      · rintro rfl; rfl
    · intro p e c
      refine WS.assign ?_
      repeat walk_at "M"
      exact ⟨rfl, rfl⟩
    · intro i e c; repeat walk_at "M"
      exact ⟨by show 2 ≤ sizeLine; decide +kernel, fun a _ _ _ e => ⟨a, rfl, e⟩⟩
    · intro p e c; refine WT.plain ?_; repeat walk_at "M"
      rfl

/-! ISEOF -/
theorem eof_ok {B : Base} {k a : Nat} (D : Def2 B 58 a .none .none) (m1 : B.mg "ENDMARKER" = some (.int 0 t0)) {H : Hp} {i : Int} {Φ : V → Hp → Prop} (h : Φ (.bool (decide (i = 0))) H) :
    WC B (k + 1) (.ref a) [.int i] H Φ := by
  refine WC.def0 D ⟨by decide +kernel, by decide +kernel, by decide +kernel, by decide +kernel, by rfl⟩ (names := ["x"]) (vs0 := [none]) (bs := [("x", .int i)]) (binding_plain (names := ["x"]) rfl fun vals hv fd hp hd hk => ?_) (by decide +kernel) (by with_unfolding_all rfl) ?_
  · obtain ⟨v, rfl⟩ := List.length_eq_one_iff.mp hv
    unfold bindArgs; rw [hp, hd]; rfl
  repeat walk_at "M"
  refine WO.two fun A P s x y r ib o hx hy => ?_
  cases hx; cases hy
  refine PySem.P.eq_int ⟨_, _, .bool _, o, ?_⟩
  rw [beq_dec]; exact h

/-! the quoted parts left out -/
abbrev StSt := Int × Option Int × List Str
def stStep (x : Str) (s : StSt) (q : Int × Str) : StSt :=
  if q.2 = "\"" then (match s.2.1 with | none => (s.1, some q.1, s.2.2) | some o => (q.1 + 1, none, if s.1 ≠ o then s.2.2 ++ [Txt.slice x (some s.1) (some o)] else s.2.2)) else s
def stFin (x : Str) (s : StSt) : List Str := if s.1 < x.length then s.2.2 ++ [Txt.slice x (some s.1) none] else s.2.2
def stripS (x : Str) : Str := if 34 ∈ x.cps.toList then Txt.join "" (stFin x ((escs 0 false x.cps.toList).foldl (stStep x) (0, none, []))) else x
theorem stStep_acc (x : Str) (s : StSt) (q : Int × Str) (n : Nat) (h : s.2.2.length ≤ n ∧ ∀ y ∈ s.2.2, y.length ≤ x.length) : (stStep x s q).2.2.length ≤ n + 1 ∧ ∀ y ∈ (stStep x s q).2.2, y.length ≤ x.length := by
  obtain ⟨h1, h2⟩ := h
  unfold stStep
  split
  · split
    · exact ⟨Nat.le_succ_of_le h1, h2⟩
    · dsimp only
      split
      · refine ⟨by simp; omega, fun y hy => ?_⟩
        rcases List.mem_append.mp hy with hy | hy
        · exact h2 y hy
        · rw [List.mem_singleton.mp hy]; exact Txt.slice_le _ _ _
      · exact ⟨Nat.le_succ_of_le h1, h2⟩
  · exact ⟨Nat.le_succ_of_le h1, h2⟩
theorem sum_le_mul {l : List Nat} {m : Nat} (h : ∀ n ∈ l, n ≤ m) : l.sum ≤ l.length * m := by
  induction l with
  | nil => simp
  | cons a r ih =>
    rw [List.sum_cons, List.length_cons, Nat.succ_mul]
    have := ih fun n hn => h n (List.mem_cons_of_mem _ hn)
    have := h a List.mem_cons_self
    omega
def optV (o : Option Int) : V := match o with | none => .none | some i => .int i
theorem strip_ok {B : Base} {k a : Nat} (D : Def2 B 2 a .none .none) {a0 : Addr} (D0 : Def2 B 1 a0 .none .none true) (n1 : B.mg "enumerate" = none) (n2 : B.mb "enumerate" = some (.type "enumerate")) (m1 : B.mg "_iter_escaped_chars" = some (.ref a0)) (m2 : B.mg "len" = none) (m3 : B.mb "len" = some (.builtin "len"))
    {H : Hp} {x : Str} {Φ : V → Hp → Prop} (hx : x.length ≤ 500) (hle : left false x.cps.toList = false) (h : ∀ H', Ext H H' → Φ (.str (stripS x)) H') : WC B (k + 3) (.ref a) [.str x] H Φ := by
  have GD := gen_def D0 n1 n2 k
  refine WC.def0 D ⟨by decide +kernel, by decide +kernel, by decide +kernel, by decide +kernel, by rfl⟩ (names := ["addr", "start", "open_pos", "result", "pos", "ch"]) (vs0 := [none, none, none, none, none, none]) (bs := [("addr", .str x)]) (binding_plain (names := ["addr"]) rfl fun vals hv fd hp hd hk => ?_) (by decide +kernel) (by with_unfolding_all rfl) ?_
  · obtain ⟨v, rfl⟩ := List.length_eq_one_iff.mp hv
    unfold bindArgs; rw [hp, hd]; rfl
  repeat walk_at "M"
  refine cmp_notIn (c := 34) ?_
  repeat walk_at "M"
  refine ⟨fun hc => ?_, fun hc => ?_⟩
  · have : ¬ 34 ∈ x.cps.toList := by simpa using hc
    repeat walk_at "M"
    have e : stripS x = x := by unfold stripS; rw [if_neg this]
    rw [← e]; exact h H (Ext.refl _)
  have hq : 34 ∈ x.cps.toList := by simpa using hc
  repeat walk_at "M"
  refine ⟨by decide +kernel, fun r Hr hr er fr => ?_⟩
  repeat walk_at "M"
  refine WSs.for (WIt.gen GD (by decide +kernel) m1 ?_)
  repeat walk_at "M"
  refine ⟨x, rfl, hle, fun i vars H' => Ext H H' ∧ ∃ (s : StSt) (o1 o2 : Option V), s = ((escs 0 false x.cps.toList).take i).foldl (stStep x) (0, none, []) ∧ H' r = some (.list (vS s.2.2)) ∧ vars = [some (.str x), some (.int s.1), some (optV s.2.1), some (.ref r), o1, o2] ∧ s.2.2.length ≤ i ∧ ∀ y ∈ s.2.2, y.length ≤ x.length, ?_, ?_, ?_, ?_⟩
  · exact ⟨er, (0, none, []), none, none, rfl, fr, rfl, Nat.zero_le _, fun _ h => nomatch h⟩
  · exact fun _ _ _ _ => trivial
  · rintro i vars H' v H1 hi ⟨hE, s, o1, o2, hs, hrl, rfl, hlen, hacc⟩ ⟨t, p, y, hit, rfl, ht, rfl⟩
    have hn : ((escs 0 false x.cps.toList).take (i + 1)).foldl (stStep x) (0, none, []) = stStep x s (p, y) := by
      rw [List.take_add_one, hit, List.foldl_append, ← hs]; rfl
    have hE1 := hE.putNew ht (.tup [.int p, .str y])
    have hr1 := put_get (o := .tup [.int p, .str y]) hrl ht
    have hst := stStep_acc x s (p, y) i ⟨hlen, hacc⟩
    have hil := escs_length x.cps.toList 0 false
    have hxl : x.cps.toList.length = x.length := by simp [Str.length]
    refine WA.tup (put_self _ _ _) ?_
    repeat walk_at "M"
    refine ⟨fun hc => ?_, fun hc => ?_⟩
    · have hy : y = "\"" := by simpa using hc
      subst hy
      obtain ⟨st, op, acc⟩ := s
      cases op with
      | none =>
        dsimp only [optV]
        repeat walk_at "M"
        refine cmp_is (b := true) (by rintro v ⟨⟩; rfl) ?_
        repeat walk_at "M"
        have e : stStep x (st, none, acc) (p, "\"") = (st, some p, acc) := by unfold stStep; rw [if_pos rfl]
        rw [e] at hn hst
        exact ⟨hE1, _, _, _, hn.symm, hr1, rfl, hst.1, hst.2⟩
      | some op =>
        have e : stStep x (st, some op, acc) (p, "\"") = (p + 1, none, if st ≠ op then acc ++ [Txt.slice x (some st) (some op)] else acc) := by unfold stStep; rw [if_pos rfl]
        rw [e] at hn hst
        dsimp only [optV]
        repeat walk_at "M"
        refine cmp_is (b := false) (by rintro v ⟨⟩; rfl) ?_
        repeat walk_at "M"
        refine ⟨fun hc => ?_, fun hc => ?_⟩
        · have hne : st ≠ op := by simpa using hc
          rw [if_pos hne] at hn hst
          repeat walk_at "M"
          refine ⟨mty_list hr1, ?_⟩
          repeat walk_at "M"
          refine sl_str (lo := some st) (hi := some op) (by show x.length ≤ 1 <<< 24; omega) ?_
          repeat walk_at "M"
          refine call_append hr1 (by simp; show acc.length ≤ 1 <<< 24; dsimp only at hlen; omega) ?_
          refine ⟨rfl, ?_⟩
          repeat walk_at "M"
          refine ⟨hE1.put _ hr, _, _, _, hn.symm, ?_, rfl, hst.1, hst.2⟩
          rw [put_self]; simp [vS]
        · have hne : ¬ st ≠ op := by simpa using hc
          rw [if_neg hne] at hn hst
          repeat walk_at "M"
          exact ⟨hE1, _, _, _, hn.symm, hr1, rfl, hst.1, hst.2⟩
    · have hy : ¬ y = "\"" := by simpa using hc
      have e : stStep x s (p, y) = s := by unfold stStep; rw [if_neg hy]
      rw [e] at hn hst
      repeat walk_at "M"
      exact ⟨hE1, _, _, _, hn.symm, hr1, rfl, hst.1, hst.2⟩
  rintro vars H' ⟨hE, s, o1, o2, hs, hrl, rfl, hlen, hacc⟩
  rw [List.take_length] at hs
  have hil := escs_length x.cps.toList 0 false
  have hxl : x.cps.toList.length = x.length := by simp [Str.length]
  have fin : ∀ H2 : Hp, Ext H H2 → H2 r = some (.list (vS (stFin x s))) → ((stFin x s).length ≤ 501 ∧ ∀ y ∈ stFin x s, y.length ≤ x.length) → JoinOk "" (stFin x s) = true ∧ Φ (.str (Txt.join "" (stFin x s))) H2 := fun H2 hE2 _ hl => by
    refine ⟨joinOk_of_weight ?_ (by decide +kernel), ?_⟩
    · have h1 := sum_le_mul (l := (stFin x s).map (·.length)) (m := x.length) fun n hn => by obtain ⟨y, hy, rfl⟩ := List.mem_map.mp hn; exact hl.2 y hy
      rw [List.length_map] at h1
      have h2 : (stFin x s).length * x.length ≤ 501 * 500 := Nat.mul_le_mul hl.1 hx
      omega
    · have e : stripS x = Txt.join "" (stFin x s) := by unfold stripS; rw [if_pos hq, ← hs]
      rw [← e]; exact h _ hE2
  repeat walk_at "M"
  refine call_lens (by omega) ?_
  repeat walk_at "M"
  refine ⟨fun hc => ?_, fun hc => ?_⟩
  · have hlt : s.1 < x.length := by simpa using hc
    have e : stFin x s = s.2.2 ++ [Txt.slice x (some s.1) none] := by unfold stFin; rw [if_pos hlt]
    rw [e] at fin
    repeat walk_at "M"
    refine ⟨mty_list hrl, ?_⟩
    repeat walk_at "M"
    refine sl_str (lo := some s.1) (hi := none) (by show x.length ≤ 1 <<< 24; omega) ?_
    repeat walk_at "M"
    refine call_append hrl (by simp; show s.2.2.length ≤ 1 <<< 24; omega) ?_
    refine ⟨rfl, ?_⟩
    repeat walk_at "M"
    refine ⟨mty_str, ?_⟩
    repeat walk_at "M"
    obtain ⟨f1, f2⟩ := fin (put H' r (.list (vS s.2.2 ++ [.str (Txt.slice x (some s.1) none)]))) (hE.put _ hr) (by rw [put_self]; simp [vS]) ⟨by simp; omega, fun y hy => by
      rcases List.mem_append.mp hy with hy | hy
      · exact hacc y hy
      · rw [List.mem_singleton.mp hy]; exact Txt.slice_le _ _ _⟩
    refine call_join (ns := s.2.2 ++ [Txt.slice x (some s.1) none]) (.of (by rw [put_self]; simp [vS])) f1 ?_
    repeat walk_at "M"
    exact f2
  · have hlt : ¬ s.1 < x.length := by simpa using hc
    have e : stFin x s = s.2.2 := by unfold stFin; rw [if_neg hlt]
    rw [e] at fin
    repeat walk_at "M"
    refine ⟨mty_str, ?_⟩
    repeat walk_at "M"
    obtain ⟨f1, f2⟩ := fin H' hE hrl ⟨by omega, hacc⟩
    refine call_join (.of hrl) f1 ?_
    repeat walk_at "M"
    exact f2
end
section
def chk : List (Int × Str) → Int → Bool
  | [], o => decide (o = 0)
  | (_, y) :: r, o => if y = "(" then chk r (o + 1) else if y = ")" then (if o - 1 < 0 then false else chk r (o - 1)) else chk r o
def chkS (x : Str) : Bool := chk (escs 0 false (stripS x).cps.toList) 0
/-- what the readers of mail need -/
structure Mail (B : Base) (a0 a1 : Addr) : Prop where
  D0 : Def2 B 1 a0 .none .none true
  D1 : Def2 B 2 a1 .none .none
  n1 : B.mg "enumerate" = none
  n2 : B.mb "enumerate" = some (.type "enumerate")
  n3 : B.mg "len" = none
  n4 : B.mb "len" = some (.builtin "len")
  m0 : B.mg "_iter_escaped_chars" = some (.ref a0)
  m1 : B.mg "_strip_quoted_realnames" = some (.ref a1)
/-- a text that the readers take to its end -/
structure Plain (x : Str) : Prop where
  len : x.length ≤ 500
  l1 : left false x.cps.toList = false
  l2 : left false (stripS x).cps.toList = false
  l3 : (stripS x).length ≤ 500
theorem Mail.strip {B : Base} {a0 a1 : Addr} (m : Mail B a0 a1) {k : Nat} {H : Hp} {x : Str} {Φ : V → Hp → Prop} (p : Plain x) (h : ∀ H', Ext H H' → Φ (.str (stripS x)) H') : WC B (k + 3) (.ref a1) [.str x] H Φ :=
  strip_ok m.D1 m.D0 m.n1 m.n2 m.m0 m.n3 m.n4 p.len p.l1 h
theorem check_ok {B : Base} {k a a0 a1 : Nat} (D : Def2 B 3 a .none .none) (m : Mail B a0 a1) {H : Hp} {x : Str} {Φ : V → Hp → Prop} (p : Plain x) (h : ∀ H', Ext H H' → Φ (.bool (chkS x)) H') : WC B (k + 4) (.ref a) [.str x] H Φ := by
  have GD := gen_def m.D0 m.n1 m.n2 (k + 1)
  have m0 := m.m0
  have m1 := m.m1
  refine WC.def0 D ?_ (names := ["addr", "opens", "pos", "ch"]) (vs0 := [none, none, none, none]) (bs := [("addr", .str x)]) (binding_plain (names := ["addr"]) rfl ?_) (by decide +kernel) (by with_unfolding_all rfl) ?_
  · walk_at "LK"
  · walk_at "B1"
  repeat walk_at "M"
  refine ⟨m.D1.callee _, fun _ i => ?_⟩
  cases i
  refine m.strip p fun H1 hE => ?_
  repeat walk_at "M"
  refine WSs.for (WIt.gen GD (by decide +kernel) m0 ?_)
  repeat walk_at "M"
  refine ⟨_, rfl, p.l2, fun i vars H' => Ext H H' ∧ ∃ (o : Int) (o1 o2 : Option V), chk ((escs 0 false (stripS x).cps.toList).drop i) o = chkS x ∧ vars = [some (.str (stripS x)), some (.int o), o1, o2], ?_, ?_, ?_, ?_⟩
  · exact ⟨hE, 0, none, none, rfl, rfl⟩
  · exact fun _ _ _ _ => trivial
  · rintro i vars H' v H2 hi ⟨hE, o, o1, o2, hs, rfl⟩ ⟨t, q, y, hit, rfl, ht, rfl⟩
    have hE1 := hE.putNew ht (.tup [.int q, .str y])
    have hd : (escs 0 false (stripS x).cps.toList).drop i = (q, y) :: (escs 0 false (stripS x).cps.toList).drop (i + 1) := by
      rw [List.drop_eq_getElem_cons hi]
      rw [List.getElem?_eq_getElem hi] at hit
      rw [Option.some.inj hit]
    rw [hd, chk] at hs
    refine WA.tup (put_self _ _ _) ?_
    repeat walk_at "M"
    refine ⟨fun hc => ?_, fun hc => ?_⟩
    · rw [if_pos (by simpa using hc)] at hs
      repeat walk_at "M"
      exact ⟨hE1, _, _, _, hs, rfl⟩
    · rw [if_neg (by simpa using hc)] at hs
      repeat walk_at "M"
      refine ⟨fun hc => ?_, fun hc => ?_⟩
      · rw [if_pos (by simpa using hc)] at hs
        repeat walk_at "M"
        refine ⟨fun hc => ?_, fun hc => ?_⟩
        · rw [if_pos (by simpa using hc)] at hs
          repeat walk_at "M"
          rw [hs]; exact h _ hE1
        · rw [if_neg (by simpa using hc)] at hs
          repeat walk_at "M"
          exact ⟨hE1, _, _, _, hs, rfl⟩
      · rw [if_neg (by simpa using hc)] at hs
        repeat walk_at "M"
        exact ⟨hE1, _, _, _, hs, rfl⟩
  rintro vars H' ⟨hE, o, o1, o2, hs, rfl⟩
  rw [List.drop_length, chk] at hs
  repeat walk_at "M"
  rw [hs]; exact h _ hE

end
section
section
variable {B : Base} {k : Nat} {F : FI} {vars : List (Option V)} {H : Hp} {i j : Int} {x y : Str}
/-! counts -/
theorem WE.count {oe : PySem.Expr} {p pos : Pos} {es : List PySem.Expr} {Φ : V → Hp → Prop}
    (h : WE B k F oe vars H fun a H1 => MTy "list" B a H1 ∧ WEs B k F es vars H1 fun vs H2 => WC B k (.builtin "list.count") (a :: vs) H2 Φ)
    (hb : ∀ env, attributeBase oe "count" env (eval oe env) = eval oe env := by intro; with_unfolding_all rfl) (hline : (p.endLine == pos.line) = true := by with_unfolding_all rfl)
    (hp : ∀ env, (starEach es env).any (·.1) = false := by intro; with_unfolding_all rfl)
    (hfew : ∀ env, ((backTo pos (starEach es env)).all (fun x => !x.1) && (backToKw pos (keywordEach [] env)).all (fun x => x.1.isSome) && decide (es.length + ([] : List Keyword).length + (if ([] : List Keyword).isEmpty then 0 else 1) < 30)) = true := by intro; with_unfolding_all rfl) :
    WE B k F (.Call (.Attribute oe "count" p) es [] pos) vars H Φ := .meth PySem.F.plainAttrs_list PySem.F.slot_list_count PySem.F.type_list_count h hb hline hp hfew
theorem call_countI {a : Addr} {ns : List Int} {Φ : V → Hp → Prop} (hl : Lst H a (vI ns)) (h : Φ (.int ((ns.count i : Nat) : Int)) H) : WC B k (.builtin "list.count") [.ref a, .int i] H Φ :=
  WO.two fun A P s _ _ r ib o hx hy => by
    cases hx; cases hy
    obtain ⟨vs, n, ia, e⟩ := hl P s o
    exact count_list_ints e.isList ia.ints ⟨_, _, .int _ _, o.toks _, h⟩
theorem Are.strs : ∀ {ns : List Str} {vs : List Value}, Are (vS ns) vs → StrsAre vs ns
  | [], _, .nil => .nil
  | _ :: _, _, .cons (.str i t) h => .cons i t h.strs
theorem countIn_strs (x : Str) : ∀ ns : List Str, Spec.countIn (.str x) (ns.map PyData.str) = ((ns.count x : Nat) : Int)
  | [] => rfl
  | n :: r => by
    rw [List.map_cons, Spec.countIn, countIn_strs x r, List.count_cons]
    simp only [Spec.same]
    by_cases e : n = x
    · subst e; simp; omega
    · have e' : (n == x) = false := by simp [e]
      simp [e']
theorem call_countS {a : Addr} {ns : List Str} {Φ : V → Hp → Prop} (hl : Lst H a (vS ns)) (h : Φ (.int ((ns.count x : Nat) : Int)) H) : WC B k (.builtin "list.count") [.ref a, .str x] H Φ :=
  WO.two fun A P s _ _ r ib o hx hy => by
    cases hx; cases hy
    obtain ⟨vs, n, ia, e⟩ := hl P s o
    refine count_list_strs e.isList ia.strs ?_
    rw [countIn_strs]
    exact ⟨_, _, .int _ _, o.toks _, h⟩
/-! texts -/
theorem bin_muls (hok : MulOk x i) {Φ : V → Hp → Prop} (h : Φ (.str (Txt.mul x i)) H) : WBin B k .Mult (.str x) (.int i) H Φ :=
  WO.two fun A P s _ _ r ib o hx hy => by cases hx; cases hy; exact SB.mul hok fun t' tk => ⟨_, _, .str _ _, o.toks _, h⟩
theorem WE.split {oe : PySem.Expr} {p pos : Pos} {es : List PySem.Expr} {Φ : V → Hp → Prop}
    (h : WE B k F oe vars H fun a H1 => MTy "str" B a H1 ∧ WEs B k F es vars H1 fun vs H2 => WC B k (.builtin "str.split") (a :: vs) H2 Φ)
    (hb : ∀ env, attributeBase oe "split" env (eval oe env) = eval oe env := by intro; with_unfolding_all rfl) (hline : (p.endLine == pos.line) = true := by with_unfolding_all rfl)
    (hp : ∀ env, (starEach es env).any (·.1) = false := by intro; with_unfolding_all rfl)
    (hfew : ∀ env, ((backTo pos (starEach es env)).all (fun x => !x.1) && (backToKw pos (keywordEach [] env)).all (fun x => x.1.isSome) && decide (es.length + ([] : List Keyword).length + (if ([] : List Keyword).isEmpty then 0 else 1) < 30)) = true := by intro; with_unfolding_all rfl) :
    WE B k F (.Call (.Attribute oe "split" p) es [] pos) vars H Φ := .meth PySem.F.plainAttrs_str PySem.F.slot_str_split PySem.F.type_str_split h hb hline hp hfew
theorem are_numbered : ∀ (tk : Nat) (xs : List Str), Are (vS xs) (strValues (numbered tk xs))
  | _, [] => .nil
  | tk, x :: r => .cons (.str x tk) (are_numbered (tk + 1) r)
theorem call_split {Φ : V → Hp → Prop} {parts : List Str} (h1 : (decide (x.length < y.length) || decide (Builtin.Str.strKind x < Builtin.Str.strKind y)) = false) (hy : (y.length == 0) = false)
    (hf : (Builtin.Str.occurrences x y 0 x.length (x.length + 1)).isEmpty = false) (hx : x.length ≤ sizeLine) (hp : Builtin.Str.partsBetween x (Builtin.Str.occurrences x y 0 x.length (x.length + 1)) y.length = parts) (hn : parts.length ≤ sizeLine)
    (h : Nu H (.list (vS parts)) Φ) : WC B k (.builtin "str.split") [.str x, .str y] H Φ :=
  WO.two fun A P s _ _ r ib o hx' hy' => by
    cases hx'; cases hy'
    subst hp
    refine call_meets PySem.F.slot_str_split (typeIs_str _ _ _) PySem.F.entry_str_split (PySem.F.args_str_split_2 _ _) (meets_str_split_sep x y _ _ h1 hy hf hx hn) ?_
    rw [strsFrom_eq]
    exact ⟨_, _, .ref _, o.pushH (.list 0 (are_numbered _ _)) _, h.out _ o.newH⟩
/-! list(range), sorted -/
theorem are_of_get : ∀ {xs : List V} {vs : List Value}, xs.length = vs.length → (∀ (j : Nat) (v : Value), vs[j]? = some v → ∃ x, xs[j]? = some x ∧ Is x v) → Are xs vs
  | [], [], _, _ => .nil
  | [], _ :: _, h, _ => nomatch h
  | _ :: _, [], h, _ => nomatch h
  | x :: xs, v :: vs, h, g => by
    obtain ⟨x', e, i⟩ := g 0 v rfl
    cases e
    exact .cons i (are_of_get (by simpa using h) fun j w hw => g (j + 1) w hw)
theorem are_ints : ∀ {ns : List Int} {vs : List Value}, IntsAre vs ns → Are (vI ns) vs
  | [], _, .nil => .nil
  | _ :: _, _, .cons i t h => .cons (.int i t) (are_ints h)
theorem Ok.growH {P : Pr} {H : Hp} {s : Shared} (K : Ok P H s) {h' : Heap} (hk : ∀ b o, s.heap.get? b = some o → h'.get? b = some o) {a : Addr} (ha : s.heap.objs.size ≤ a) {o : O} {ob : Obj} (he : h'.get? a = some ob) (i : ObIs o ob) (t : Nat) : Ok P (put H a o) { s with heap := h', toks := t } := by
  refine ⟨fun b x e => hk _ _ (K.prot b x e), fun b x e => ?_, fun b x e => ?_, K.gens, K.bare, K.os⟩
  · by_cases q : b = a
    · subst q; rw [put_self] at e; cases e; exact ⟨ob, he, i⟩
    · rw [put_ne _ _ q] at e
      obtain ⟨y, e', i'⟩ := K.objs b x e
      exact ⟨y, hk _ _ e', i'⟩
  · rw [put_ne _ _ (Nat.ne_of_lt (Nat.lt_of_lt_of_le (K.ltP e) ha))]; exact K.dis b x e
theorem call_list_rangeN {r : Addr} {n : Nat} {Φ : V → Hp → Prop} (hr : H r = some (.rng 0 n 1)) (hn : n ≤ 1000) (h : Nu H (.list (vN (List.range n))) Φ) : WC B k (.type "list") [.ref r] H Φ :=
  WO.one fun A P s _ rm ib o hx => by
    cases hx
    obtain ⟨t, u, v, e⟩ := o.rng hr
    refine call_list_range (n := n) rm.1 e (small_one (by omega) (by omega) (by omega) (by omega)) (by rw [rangeSize_nat]; simp) (by omega) fun h' tk acc' c' hk hS hacc => ?_
    refine ⟨_, _, .ref _, o.growH hk (Nat.le_refl _) hS (.list (vs := acc'.toList) c' ?_) _, h.out _ o.newH⟩
    refine are_of_get (by simp [hacc.1]) fun j v hv => ?_
    have hv' : acc'[j]? = some v := by simpa using hv
    obtain ⟨t, rfl⟩ := hacc.2 j v hv'
    have hj : j < n := by
      have := (Array.getElem?_eq_some_iff.mp hv').1
      rw [hacc.1] at this; exact this
    refine ⟨.int ((j : Nat) : Int), by simp [vN, hj], ?_⟩
    rw [show (0 : Int) + (j : Int) * 1 = (j : Int) by omega]
    exact .int _ t
theorem call_sorted {a : Addr} {ns : List Int} {Φ : V → Hp → Prop} (hl : Lst H a (vI ns)) (hz : ns.length < 64) (h : ∀ ms : List Int, ms.Perm ns → ms.Pairwise (· ≤ ·) → Nu H (.list (vI ms)) Φ) : WC B k (.builtin "sorted") [.ref a] H Φ :=
  WO.one fun A P s _ rm ib o hx => by
    cases hx
    obtain ⟨vs, n, ia, e⟩ := hl P s o
    have hl' : vs.length = ns.length := by rw [← ia.length]; simp
    refine sorted_ints e.isList ia.ints (by omega) fun out ms a1 a2 a3 => ?_
    obtain ⟨e', he⟩ := sortedAll_at s.heap vs out
    have o' := o.growH (h' := sortedAll s.heap vs out) (fun b x hb => sortedAll_old hb) (Nat.le_succ _) he (.list (xs := vI ms) (vs := out.toList) e' (are_ints a1)) s.toks
    exact ⟨_, _, .ref _, o', (h ms a2 a3).out _ (by cases q : H (s.heap.objs.size + 1) with | none => rfl | some z => exact absurd (o.ltH q) (Nat.not_lt.mpr (Nat.le_succ _)))⟩
/-! the table: in, an item -/
theorem cmp_notInT {d : Addr} {f : Str → Option Value} {Φ : V → Hp → Prop} (T : Tab B d f) (h : Φ (.bool (!(f x).isSome)) H) : WCmp B k .NotIn (.str x) (.val (.ref d)) H Φ :=
  WO.two fun A P s _ _ r ib o hx hy => by
    cases hx; cases hy
    exact wpAny_notIn_of (strKind_is _ _ _ _) T.1 (T.2 _ (ib.heap o)) ⟨_, _, .bool _, o.toks _, h⟩
theorem item_tab {d : Addr} {f : Str → Option Value} {v : V} {z : Value} {Φ : V → Hp → Prop} (T : Tab B d f) (hz : f x = some z) (hv : Is v z) (h : Φ v H) : WItem B k (.val (.ref d)) (.str x) H Φ := by
  intro A P s a b r ib o ia ib'
  cases ia; cases ib'
  have hm := T.2 _ (ib.heap o)
  exact ⟨NotPy.of hm.typeIs slot_dict_getitem.lookup, wpAny_getItem_of (strKind_is _ _ _ _) hm hz ⟨_, _, hv, o.toks _, h⟩⟩
end
end
section
/-! lambdas -/
structure LamB (B : Base) (c T : Addr) : Prop where
  code : ∀ h : Heap, (∀ a o, B.obj a = some o → h.get? a = some o) → CodeHd h c T
  blt : ∀ h : Heap, (∀ a o, B.obj a = some o → h.get? a = some o) → h.BuiltinsAt B.mg T
  ne : mainGlobals ≠ T
/-- a lambda, made -/
def LamAt (H : Hp) (f : Addr) (ps : Arguments) (body : PySem.Expr) (sc : Scope) (clos : List (Str × Addr)) : Prop :=
  ∃ qual pm c' ctv oc vs t, H f = some (.raw (kla_obj "<lambda>" qual ps body sc clos pm c' ctv)) ∧ H c' = some (.raw oc) ∧ oc.data = .fields vs ∧ vs[1]? = some (.str qual t)
theorem LamAt.ext {H H' : Hp} {f : Addr} {ps : Arguments} {body : PySem.Expr} {sc : Scope} {clos : List (Str × Addr)} (L : LamAt H f ps body sc clos) (x : Ext H H') : LamAt H' f ps body sc clos := by
  obtain ⟨qual, pm, c', ctv, oc, vs, t, h1, h2, h3, h4⟩ := L
  exact ⟨qual, pm, c', ctv, oc, vs, t, x _ _ h1, x _ _ h2, h3, h4⟩
theorem LamAt.callee {B : Base} {H : Hp} {f : Addr} {ps : Arguments} {body : PySem.Expr} {sc : Scope} {clos : List (Str × Addr)} (L : LamAt H f ps body sc clos) : Callee B H (.ref f) := by
  obtain ⟨qual, pm, c', ctv, oc, vs, t, h1, _⟩ := L
  exact .lam h1 rfl
structure LLooks (sc : Scope) (names : List Str) (vs : List (Option V)) (fns : List Str) : Prop where
  nd : names.Nodup
  lo : locOk sc names = true
  cel : celOk sc fns = true
  cn : celNames sc.names = []
  fn : fns.Nodup
  vs : vs.all (·.isNone) = true
  kind : sc.kind = .function
  co : sc.isCoroutine = false
  gen : sc.isGenerator = false
theorem call_lam {B : Base} {k : Nat} {H : Hp} {f : Addr} {ps : Arguments} {body : PySem.Expr} {sc : Scope} {fcs : List (Str × Addr)} {names pn : List Str} {vs0 : List (Option V)} {args : List V} {Φ : V → Hp → Prop}
    (La : LamAt H f ps body sc fcs.reverse) (L : LLooks sc names vs0 (fcs.map (·.1))) (hl : pn.length = args.length)
    (hb : ∀ (fd : FuncData) (vals : List Value), fd.params = ps → fd.defaults = .none → fd.kwdefaults = .none → vals.length = pn.length → bindArgs fd ⟨vals, []⟩ = pure (pn.zip vals))
    (h : WBs B k ⟨sc, names, fcs, none⟩ (pn.zip args) vs0 H fun vars H1 => WE B k ⟨sc, names, fcs, none⟩ body vars H1 Φ) : WC B (k + 1) (.ref f) args H Φ := by
  intro A P s vals r ib o ar
  obtain ⟨qual, pm, c', ctv, oc, vs, t, h1, h2, h3, h4⟩ := La
  have hf := o.raw h1
  have hc := o.raw h2
  have hlv : vals.length = pn.length := by rw [hl, ar.length]
  refine wpAny_call (kla_callFunE r.depth hf rfl L.co L.gen rfl ⟨_, oc, vs, t, rfl, hc, h3, h4⟩ ?_)
  rw [hb _ vals rfl rfl rfl hlv]
  refine wpAny_pure ?_
  have hba : BAre (pn.zip args) (pn.zip vals) := by
    have ar' : Are args vals := ar
    clear h hb ar hlv
    induction ar' generalizing pn with
    | nil => rw [List.zip_nil_right, List.zip_nil_right]; exact .nil
    | cons a b ih => cases pn with
      | nil => exact .nil
      | cons n ns => exact .cons a (ih (pn := ns) (by simpa using hl))
  refine env_new (fcs := fcs) none (fun _ _ e => nomatch e) o L.kind L.co L.nd L.lo (by rw [L.cn]; exact L.cel) (by rw [L.cn]; exact .nil) L.vs (fun x c hm => by have := lookup_rev (acc := []) L.fn hm; rwa [List.append_nil] at this)
    (fun x hx => by rw [L.cn] at hx; cases hx) (fun _ e => nomatch e) fun cs env s1 e1 e2 e3 e6 hsc _ f1 o1 => ?_
  rw [L.cn] at e1
  have hcs : cs = [] := List.length_eq_zero_iff.mp e1
  subst hcs
  rw [L.cn] at f1
  refine noE (WBs.run (k := k) (A := A.in1) r.in1 ib hba f1 o1 h) ?_
  rintro _ s2 ⟨vars, H1, f2, o2, h2'⟩
  refine ⟨B.limit _ (ib.heap o2), kla_codeExpr ?_⟩
  refine wpAny_mono (h2' (A.deeper env) env P s2 (r.deeper env) ib f2 o2) ?_ fun _ _ e => e.elim
  rintro v s3 ⟨v', H3, iv, f3, o3, h3'⟩
  exact ⟨v', H3, iv, o3, h3'⟩
/-! the table of a def's codes -/
def TabOk (T : Addr) (q : Str) (PL : List Pos) (H : Hp) : Prop := ∃ ps : Array Value, H T = some (.raw (tabObj ps)) ∧ TriplesOk ps.toList ∧
  ∀ p ∈ PL, codeAmong p ps.toList = none ∨ ∃ c' oc vs t, codeAmong p ps.toList = some (.ref c') ∧ c' ≠ T ∧ H c' = some (.raw oc) ∧ oc.data = .fields vs ∧ vs[1]? = some (.str (q ++ "<lambda>") t)
/-- the heap has grown, but for the table -/
def ExtT (T : Addr) (H H' : Hp) : Prop := (∀ a o, a ≠ T → H a = some o → H' a = some o) ∧ ∀ ps : Array Value, H T = some (.raw (tabObj ps)) → ∃ more : Array Value, H' T = some (.raw (tabObj (ps ++ more)))
theorem ExtT.refl (T : Addr) (H : Hp) : ExtT T H H := ⟨fun _ _ _ h => h, fun ps h => ⟨#[], by rw [Array.append_empty]; exact h⟩⟩
theorem Ext.toT {T : Addr} {H H' : Hp} (x : Ext H H') : ExtT T H H' := ⟨fun a o _ e => x a o e, fun ps h => ⟨#[], by rw [Array.append_empty]; exact x _ _ h⟩⟩
theorem ExtT.trans {T : Addr} {H H' H'' : Hp} (x : ExtT T H H') (y : ExtT T H' H'') : ExtT T H H'' := ⟨fun a o n e => y.1 a o n (x.1 a o n e), fun ps h => let ⟨m, h1⟩ := x.2 ps h; let ⟨m2, h2⟩ := y.2 _ h1; ⟨m ++ m2, by rw [← Array.append_assoc]; exact h2⟩⟩
theorem TabOk.ext {T : Addr} {q : Str} {PL : List Pos} {H H' : Hp} (h : TabOk T q PL H) (x : Ext H H') : TabOk T q PL H' := by
  obtain ⟨ps, h1, h2, h3⟩ := h
  refine ⟨ps, x _ _ h1, h2, fun p hp => ?_⟩
  rcases h3 p hp with h | ⟨c', oc, vs, t, g1, g2, g3, g4, g5⟩
  · exact .inl h
  · exact .inr ⟨c', oc, vs, t, g1, g2, x _ _ g3, g4, g5⟩
theorem codeAmong_other {p q : Pos} {c : Value} (hne : ¬ (p.line = q.line ∧ p.col = q.col)) (l : List Value) (h : TriplesOk l) :
    codeAmong p (l ++ [rawInt q.line, rawInt q.col, c]) = codeAmong p l := by
  fun_induction TriplesOk l with
  | case1 =>
    have : (((q.line : Nat) : Int) == ((p.line : Nat) : Int) && ((q.col : Nat) : Int) == ((p.col : Nat) : Int)) = false := by
      cases e : (((q.line : Nat) : Int) == ((p.line : Nat) : Int) && ((q.col : Nat) : Int) == ((p.col : Nat) : Int)) with
      | false => rfl
      | true =>
        exfalso
        rw [Bool.and_eq_true, beq_iff_eq, beq_iff_eq] at e
        exact hne ⟨by omega, by omega⟩
    simp [codeAmong, rawInt, this]
  | case2 a t b u x rest ih =>
    simp only [List.cons_append, codeAmong]
    split
    · rfl
    · exact ih h
  | case3 l h1 h2 => exact h.elim
end
section
theorem Ok.extBut {P : Pr} {H : Hp} {s : Shared} (K : Ok P H s) {T : Addr} {o o' : O} {ob' : Obj} {h' : Heap} (hT : H T = some o) (hx : Heap.ExtBut T s.heap h') (e : h'.get? T = some ob') (i : ObIs o' ob') (t : Nat) : Ok P (put H T o') { s with heap := h', toks := t } := by
  have nP : ∀ b x, P.obj b = some x → b ≠ T := fun b x h q => by subst q; have := K.dis _ _ h; rw [hT] at this; cases this
  refine ⟨fun b x h => hx b x (nP b x h) (K.prot b x h), fun b x h => ?_, fun b x h => ?_, K.gens, K.bare, K.os⟩
  · by_cases hb : b = T
    · subst hb; rw [put_self] at h; cases h; exact ⟨ob', e, i⟩
    · rw [put_ne _ _ hb] at h
      obtain ⟨y, e', i'⟩ := K.objs b x h
      exact ⟨y, hx b y hb e', i'⟩
  · rw [put_ne _ _ (nP b x h)]; exact K.dis b x h
theorem Ok.tell {P : Pr} {H : Hp} {s : Shared} (K : Ok P H s) {a : Addr} {o : O} {ob : Obj} (hP : P.obj a = none) (e : s.heap.get? a = some ob) (i : ObIs o ob) : Ok P (put H a o) s := by
  refine ⟨K.prot, fun b x h => ?_, fun b x h => ?_, K.gens, K.bare, K.os⟩
  · by_cases hb : b = a
    · subst hb; rw [put_self] at h; cases h; exact ⟨ob, e, i⟩
    · rw [put_ne _ _ hb] at h; exact K.objs b x h
  · have : b ≠ a := by rintro rfl; rw [hP] at h; cases h
    rw [put_ne _ _ this]; exact K.dis b x h
theorem WE.lam {B : Base} {k : Nat} {F : FI} {vars : List (Option V)} {H : Hp} {params : Arguments} {body : PySem.Expr} {scope : Scope} {pos : Pos} {Φ : V → Hp → Prop} {c T : Addr} {q : Str} {PL : List Pos}
    (LB : LamB B c T) (hF : F.code = some (c, q)) (hT : TabOk T q PL H) (hpl : pos ∈ PL) (hne : ∀ p ∈ PL, p ≠ pos → ¬ (p.line = pos.line ∧ p.col = pos.col))
    (fcs : List (Str × Addr)) (hfr : ((scope.names.filter (·.2 == .free)).map (·.1)) = fcs.map (·.1)) (hfc : ∀ p ∈ fcs, p ∈ F.cells)
    (h : ∀ f H', H f = none → ExtT T H H' → TabOk T q PL H' → LamAt H' f params body scope fcs.reverse → Φ (.ref f) H')
    (hdef : ∀ env, defaultsOf params env = ([], []) := by intro; with_unfolding_all rfl) : WE B k F (.Lambda params body scope pos) vars H Φ := by
  intro A env P s r ib fm o
  have hh := ib.heap o
  obtain ⟨hcode, hqual⟩ := fm.cod c q hF
  obtain ⟨ps, hTab, ht, hcs⟩ := hT
  have hlT : env.locals ≠ T := by rintro e; have := fm.locH; rw [e, hTab] at this; cases this
  have hcl := closureFor_is (env := env) hfr fun p hp => fm.cells p.1 p.2 (hfc p hp)
  refine kla_eval (hdef env) ?_
  cases hm : codeAmong pos ps.toList with
  | none =>
    refine kla_makeFunction (mg := B.mg) hcl fm.glob (B.glob _ hh) hcode (LB.code _ hh) (o.raw hTab) ht hm LB.ne (LB.blt _ hh) fun c' ctv h' tk hx hge hlt hrec htb => ?_
    obtain ⟨c₂, oc, vs, t, e2, hoc, hd, hv⟩ := hrec
    cases e2
    have hlive : oc.isFreed = false := by
      obtain ⟨a1, a2, a3, a4⟩ := oc
      cases hd; rfl
    have o1 := o.extBut (o' := .raw (tabObj (ps ++ #[rawInt pos.line, rawInt pos.col, .ref c']))) hTab hx htb (.raw rfl) tk
    have hcT : c' ≠ T := fun e => by subst e; exact absurd (o.ltH hTab) (Nat.not_lt.mpr hge)
    have hPc : P.obj c' = none := by
      cases q : P.obj c' with
      | none => rfl
      | some z => exact absurd (o.ltP q) (Nat.not_lt.mpr hge)
    have hHc : H c' = none := by
      cases q : H c' with
      | none => rfl
      | some z => exact absurd (o.ltH q) (Nat.not_lt.mpr hge)
    have o2 := o1.tell (o := .raw oc) hPc hoc (.raw hlive)
    have o3 := o2.pushH (o := .raw (kla_obj "<lambda>" (env.qual ++ "<lambda>") params body scope fcs.reverse ((B.mg "__name__").getD .none) c' ctv)) (.raw rfl) tk
    have hfc' : h'.objs.size ≠ c' := Nat.ne_of_gt hlt
    have hsz : ∀ b z, H b = some z → b < h'.objs.size := fun b z e => Nat.lt_of_lt_of_le (o.ltH e) (Nat.le_trans hge (Nat.le_of_lt hlt))
    have hTf : T ≠ h'.objs.size := Nat.ne_of_lt (hsz _ _ hTab)
    have hnf : H h'.objs.size = none := by
      cases q : H h'.objs.size with
      | none => rfl
      | some z => exact absurd (hsz _ _ q) (Nat.lt_irrefl _)
    have ex : ExtT T H (put (put (put H T (.raw (tabObj (ps ++ #[rawInt pos.line, rawInt pos.col, .ref c'])))) c' (.raw oc)) h'.objs.size (.raw (kla_obj "<lambda>" (env.qual ++ "<lambda>") params body scope fcs.reverse ((B.mg "__name__").getD .none) c' ctv))) := ⟨fun a z n e => by
      rw [put_ne _ _ (Nat.ne_of_lt (hsz _ _ e)), put_ne _ _ (by rintro rfl; rw [hHc] at e; cases e), put_ne _ _ n]; exact e, fun ps' e => by
      rw [hTab] at e; cases e
      exact ⟨_, by rw [put_ne _ _ hTf, put_ne _ _ (Ne.symm hcT), put_self]⟩⟩
    have gc : (put (put (put H T (.raw (tabObj (ps ++ #[rawInt pos.line, rawInt pos.col, .ref c'])))) c' (.raw oc)) h'.objs.size (.raw (kla_obj "<lambda>" (env.qual ++ "<lambda>") params body scope fcs.reverse ((B.mg "__name__").getD .none) c' ctv))) c' = some (.raw oc) := by
      rw [put_ne _ _ (Ne.symm hfc'), put_self]
    refine ⟨_, _, .ref _, fm.mono (fun z e => Heap.get?_push_of_some _ (hx _ _ hlT e)) (fun hl => ?_) (fun _ => fm.locP), o3, h _ _ hnf ex ⟨_, by rw [put_ne _ _ hTf, put_ne _ _ (Ne.symm hcT), put_self], ?_, fun p hp => ?_⟩ ⟨_, _, c', _, oc, vs, t, put_self _ _ _, gc, hd, hv⟩⟩
    · rw [put_ne _ _ (Nat.ne_of_lt (Nat.lt_of_lt_of_le hl (Nat.le_trans hge (Nat.le_of_lt hlt)))), put_ne _ _ (Nat.ne_of_lt (Nat.lt_of_lt_of_le hl hge)), put_ne _ _ hlT]; exact fm.locH
    · rw [Array.toList_append]; exact TriplesOk_snoc _ _ _ _ ht
    · rw [Array.toList_append]
      by_cases hpp : p = pos
      · subst hpp
        exact .inr ⟨c', oc, vs, t, codeAmong_snoc _ ht hm, hcT, gc, hd, by rw [← hqual]; exact hv⟩
      · rcases hcs p hp with g | ⟨c3, oc3, vs3, t3, g1, g2, g3, g4, g5⟩
        · exact .inl (by rw [← g]; exact codeAmong_other (hne p hp hpp) _ ht)
        · exact .inr ⟨c3, oc3, vs3, t3, by rw [← g1]; exact codeAmong_other (hne p hp hpp) _ ht, g2, ex.1 _ _ g2 g3, g4, g5⟩
  | some cv =>
    rcases hcs pos hpl with g | ⟨c3, oc3, vs3, t3, g1, g2, g3, g4, g5⟩
    · rw [hm] at g; cases g
    · rw [hm] at g1; cases g1
      refine kla_makeFunctionHit (mg := B.mg) hcl fm.glob (B.glob _ hh) hcode (LB.code _ hh) (o.raw hTab) ht hm (LB.blt _ hh) fun ctv h' tk hk hsz => ?_
      have o1 := o.grow hk tk
      have o2 := o1.pushH (o := .raw (kla_obj "<lambda>" (env.qual ++ "<lambda>") params body scope fcs.reverse ((B.mg "__name__").getD .none) c3 ctv)) (.raw rfl) tk
      have hnf : H h'.objs.size = none := o1.newH
      have ex : Ext H (put H h'.objs.size (.raw (kla_obj "<lambda>" (env.qual ++ "<lambda>") params body scope fcs.reverse ((B.mg "__name__").getD .none) c3 ctv))) := (Ext.refl H).put _ hnf
      refine ⟨_, _, .ref _, fm.mono (fun z e => Heap.get?_push_of_some _ (hk _ _ e)) (fun hl => ?_) (fun _ => fm.locP), o2, h _ _ hnf ex.toT (TabOk.ext ⟨ps, hTab, ht, hcs⟩ ex) ⟨_, _, c3, _, oc3, vs3, t3, put_self _ _ _, ex _ _ g3, g4, by rw [hqual]; exact g5⟩⟩
      rw [put_ne _ _ (Nat.ne_of_lt (Nat.lt_of_lt_of_le hl hsz))]; exact fm.locH
end
section
theorem WC.defk {B : Base} {k : Nat} {H : Hp} {a : Addr} {st : Stmt} {dv kdv : Value} {names : List Str} {vs0 : List (Option V)} {n : Str} {kv : V} {args : List V} {bs : List (Str × V)} {Φ : V → Hp → Prop} {s1 : Stmt} {body : List Stmt}
    (D : DefAt B a (sArgs st) (sBody st) (sScope st) dv kdv) (L : Looks (sScope st) names vs0) (hb : Binding B (sArgs st) dv kdv [n] (kv :: args) bs) (hc : celNames (sScope st).names = []) (hbd : sBody st = s1 :: body)
    (h : WBs B k ⟨sScope st, names, [], none⟩ bs vs0 H fun vars H1 => WSs B k ⟨sScope st, names, [], none⟩ (s1 :: body) vars H1 (retV Φ)) : WCk B (k + 1) (.ref a) n (kv :: args) H Φ := by
  intro A P s vals r ib o ar
  cases ar with
  | cons i1 i2 =>
    refine call_def none (fun _ _ e => nomatch e) (kvals := [_]) D L hb (fun cs h1 h2 h3 h6 => ?_) r ib o (.cons i1 i2) rfl
    obtain rfl := cs_nil hc h1
    rw [hc, ← hbd] at *
    exact h
def goK (kf : Nat → Bool) : Nat → Nat → Nat → Nat
  | 0, lo, _ => lo
  | f + 1, lo, hi => if lo < hi then (if kf ((lo + hi) / 2) then goK kf f lo ((lo + hi) / 2) else goK kf f ((lo + hi) / 2 + 1) hi) else lo
def bisK (kf : Nat → Bool) (n : Nat) : Nat := goK kf n 0 n
structure BisK (B : Base) (a : Addr) : Prop where
  mg : B.mg "bisect_left" = some (.ref a)
  len : B.mg "len" = none
  len' : B.mb "len" = some (.builtin "len")
  df : ∃ dv kdv, Def2 B 6 a dv kdv ∧ ∀ x y z, Binding B (sArgs (at2 6)) dv kdv ["key"] [z, x, y] [("a", x), ("x", y), ("lo", .int 0), ("hi", .none), ("key", z)]
theorem blk_ok {B : Base} {k a : Nat} (g : BisK B a) {H : Hp} {l f : Addr} {xs : List V} {kf : Nat → Bool} {Φ : V → Hp → Prop} (hl : H l = some (.list xs)) (hz : xs.length ≤ 1000)
    (hk : ∀ (H' : Hp) (i : Nat) (x : V), Ext H H' → xs[i]? = some x → ∀ Ψ : V → Hp → Prop, (∀ H'', Ext H' H'' → Ψ (.bool (kf i)) H'') → WC B k (.ref f) [x] H' Ψ) (hc : ∀ H', Ext H H' → Callee B H' (.ref f))
    (h : ∀ H', Ext H H' → Φ (.int ((bisK kf xs.length : Nat) : Int)) H') : WCk B (k + 1) (.ref a) "key" [.ref f, .ref l, .bool true] H Φ := by
  obtain ⟨dv, kdv, D, hb⟩ := g.df
  refine WC.defk D bl_looks (hb _ _ _) (by decide +kernel) (by with_unfolding_all rfl) ?_
  have m1 := g.len
  have m2 := g.len'
  repeat walk_at "M"
  refine cmp_is (b := true) (by rintro v ⟨⟩; rfl) ?_
  repeat walk_at "M"
  refine call_len hl (by omega) ?_
  repeat walk_at "M"
  refine cmp_is (b := false) (by rintro v ⟨⟩; rfl) ?_
  repeat walk_at "M"
  refine WSs.while (fun m vars H' => Ext H H' ∧ ∃ (lo hi : Nat) (o : Option V), vars = [some (V.ref l), some (V.bool true), some (V.int lo), some (.int hi), some (.ref f), o] ∧ lo ≤ hi ∧ hi ≤ xs.length ∧ hi - lo ≤ m ∧ goK kf m lo hi = bisK kf xs.length) xs.length ?_ ?_
  · exact ⟨Ext.refl _, 0, xs.length, none, rfl, by omega, by omega, by omega, rfl⟩
  rintro m vars H' ⟨xE, lo, hi, o, rfl, h1, h2, h3, h4⟩
  repeat walk_at "M"
  refine ⟨fun hc' => ?_, fun hc' => ?_⟩
  · have hlt : lo < hi := by simpa using hc'
    obtain ⟨m, rfl⟩ : ∃ m', m = m' + 1 := ⟨m - 1, by omega⟩
    rw [goK, if_pos hlt] at h4
    repeat walk_at "M"
    refine bin_divn (i := lo + hi) (j := 2) (by omega) (by omega) ?_
    repeat walk_at "M"
    have hlm : (lo + hi) / 2 < xs.length := by omega
    refine item_list (v := xs[(lo + hi) / 2]) (.of (xE _ _ hl)) (by omega) (by omega) (by rw [Int.toNat_natCast]; exact List.getElem?_eq_getElem hlm) ?_
    repeat walk_at "M"
    refine ⟨hc _ xE, fun _ i => ?_⟩
    cases i
    refine hk H' ((lo + hi) / 2) _ xE (List.getElem?_eq_getElem hlm) _ fun H'' x2 => ?_
    repeat walk_at "M"
    refine cmp_ltb ?_
    repeat walk_at "M"
    refine ⟨fun hc' => ?_, fun hc' => ?_⟩
    · have hn : kf ((lo + hi) / 2) = false := by simpa using hc'
      rw [hn, if_neg Bool.false_ne_true] at h4
      repeat walk_at "M"
      exact ⟨m, by omega, xE.trans x2, (lo + hi) / 2 + 1, hi, _, rfl, by omega, by omega, by omega, h4⟩
    · have hn : kf ((lo + hi) / 2) = true := by simpa using hc'
      rw [hn, if_pos rfl] at h4
      repeat walk_at "M"
      exact ⟨m, by omega, xE.trans x2, lo, (lo + hi) / 2, _, rfl, by omega, by omega, by omega, h4⟩
  · have hlt : ¬ lo < hi := by simpa using hc'
    have : lo = bisK kf xs.length := by
      rw [← h4]
      cases m with
      | zero => rfl
      | succ m => rw [goK, if_neg hlt]
    repeat walk_at "M"
    rw [this]; exact h _ xE
end
section
/-! a comprehension with two clauses -/
/-- the made list, hidden, with what it holds so far -/
def Acc2 (P : Pr) (D : Addr) (F : FI) (env : Env) (f : Foot) (out : List V) (vars : List (Option V)) (H : Hp) (s : Shared) : Prop :=
  ∃ (outv : List Value) (c : Nat), Are out outv ∧ Fm F env vars (P.put D (accObj outv.toArray c)) H s ∧ Ok ((P.put D (accObj outv.toArray c)).with f) H s ∧ Dis (P.put D (accObj outv.toArray c)) f ∧ f.obj env.locals = none
/-- what a turn's emission does -/
def Emits (B : Base) (k : Nat) (F : FI) (P : Pr) (D : Addr) (env : Env) (A : Around) (emit : Sem Unit) (f : Foot) (Pre : List V → List (Option V) → Hp → Prop) (Post : List V → Hp → Prop) : Prop :=
  ∀ out v H s, Acc2 P D F env f out v H s → Pre out v H → wpAny B.M A emit (fun _ s' => ∃ out' v' H', Acc2 P D F env f out' v' H' s' ∧ Post out' H') (fun _ _ => False) s
def St2 (n : Nat) (J : Nat → Foot → Prop) (Inv : Nat → List V → Hp → Prop) (P : Pr) (D : Addr) (F : FI) (env : Env) (m : Nat) (s : Shared) : Prop :=
  ∃ (i : Nat) (f : Foot) (out : List V) (vars : List (Option V)) (H : Hp), i ≤ n ∧ m = n - i ∧ Acc2 P D F env f out vars H s ∧ J i f ∧ Inv i out H
def Out2 (n : Nat) (Inv : Nat → List V → Hp → Prop) (P : Pr) (D : Addr) (F : FI) (env : Env) (r : Result) (s' : Shared) : Prop :=
  match r with
  | .ok _ => ∃ out H' vars', Acc2 P D F env ⟨fun _ => none, fun _ => none⟩ out vars' H' s' ∧ Inv n out H'
  | .error _ => False
theorem with_nil (P : Pr) : P.with ⟨fun _ => none, fun _ => none⟩ = P := by unfold Pr.with; simp
theorem dis_nil (P : Pr) : Dis P ⟨fun _ => none, fun _ => none⟩ := ⟨fun _ _ h => (nomatch h), fun _ _ h => (nomatch h)⟩
theorem Fm.withF {F : FI} {env : Env} {vars : List (Option V)} {P : Pr} {f : Foot} {H : Hp} {s : Shared} (K : Fm F env vars P H s) (h : f.obj env.locals = none) : Fm F env vars (P.with f) H s := K.mono (fun _ e => e) (fun _ => K.locH) fun _ => by
  show (f.obj env.locals).or (P.obj env.locals) = none
  rw [h]; exact K.locP
theorem Fm.noF {F : FI} {env : Env} {vars : List (Option V)} {P : Pr} {f : Foot} {H : Hp} {s : Shared} (K : Fm F env vars (P.with f) H s) (h : f.obj env.locals = none) : Fm F env vars P H s := K.mono (fun _ e => e) (fun _ => K.locH) fun _ => by
  have := K.locP
  have : (f.obj env.locals).or (P.obj env.locals) = none := this
  rw [h] at this; exact this
theorem Fm.clean {F : FI} {env : Env} {vars vs0 : List (Option V)} {P : Pr} {H : Hp} {s : Shared} (hv : vs0.all (·.isNone) = true) (K : Fm F env vars P H s) : Fm F env vs0 P H s := ⟨K.sc, K.kind, K.glob, K.blt, K.nd, K.loc, K.cel, K.locP, K.locH,
    let ⟨m, a, _⟩ := K.ns; ⟨m, a, fun i x v _ hw => by have := List.all_eq_true.mp hv _ (List.mem_of_getElem? hw); cases this⟩, K.cells, K.coro, K.cod⟩
theorem loop2 {B : Base} {k : Nat} {F : FI} {it : Value} {n : Nat} {J : Nat → Foot → Prop} {Req : Hp → Prop} {Item : Nat → Hp → V → Hp → Prop} {A : Around} (I : Iter B k A it n J Req Item) {elt target : PySem.Expr} {gens : List Comprehension} {scope : Scope} {pos : Pos} {dep : Nat} {p : Pos} {vs0 : List (Option V)} (hv : vs0.all (·.isNone) = true)
    {env : Env} {P : Pr} {D : Addr} {emit : Sem Unit}
    (hT : compTurn (.ListComp elt gens scope pos) dep it (.ref D) env = (standAt p >>= fun _ => pyNext it >>= fun r => match r with | none => pure (.done .next) | some v => letOwnedTupleGo target it v >>= fun _ => assign target env v >>= fun _ => emit >>= fun _ => PySem.again (.compLoop (.ListComp elt gens scope pos) dep it (.ref D) env)))
    (Inv : Nat → List V → Hp → Prop) (req : ∀ i v H, Inv i v H → Req H) (Pre : Nat → List V → List (Option V) → Hp → Prop)
    (turn : ∀ i out H v H1, i < n → Inv i out H → Item i H v H1 → WA B k F target v vs0 H1 fun v2 H2 => Pre i out v2 H2)
    (hem : ∀ i f, i < n → J (i + 1) f → Emits B k F P D env A emit f (Pre i) (Inv (i + 1)))
    {f : Foot} {out : List V} {vars : List (Option V)} {H : Hp} {s : Shared} (r : Room k A) (ib : B.In P) (hD : P.obj D = none) (acc : Acc2 P D F env f out vars H s) (j : J 0 f) (h : Inv 0 out H) :
    codeAny B.M A (.compLoop (.ListComp elt gens scope pos) dep it (.ref D) env) (Out2 n Inv P D F env) s := by
  refine codeAny_loop rfl (St2 n J Inv P D F env) ?_ (n - 0) ⟨0, f, out, vars, H, Nat.zero_le _, rfl, acc, j, h⟩
  rintro m s ⟨i, f, out, vars, H, hi, rfl, ⟨outv, c, ao, fm, o, d, hl⟩, j, h⟩
  show wpAny _ _ ((compTurn (.ListComp elt gens scope pos) dep it (.ref D) env).onRaise (fun x => do noteFrame x env; theTreesLotGoes x)) _ _ s
  refine wpAny_noted ?_
  rw [hT]
  have hA : A.under (.compLoop (.ListComp elt gens scope pos) dep it (.ref D) env) = A := rfl
  rw [hA]
  have ibP : B.In (P.put D (accObj outv.toArray c)) := fun a x e => by
    have : a ≠ D := by rintro rfl; have := ib a x e; rw [hD] at this; cases this
    rw [Pr.put_ne _ _ this]; exact ib a x e
  obtain ⟨P', hP, d', o', back⟩ := fm.guardF o d hl
  have ib' : B.In P' := fun a x e => hP a x (ibP a x e)
  refine wpAny_bind (wpAny_standAt (wpAny_bind ?_))
  by_cases hlt : i < n
  · refine noE (I.next i f P' H s hlt j ib' d' r o' (req _ _ _ h)) ?_
    rintro _ s1 ⟨val, v, f1, H1, rfl, iv, j1, d1, o1, it1⟩
    obtain ⟨fm2, d2, o2, hl2⟩ := back _ _ _ d1 o1
    refine wpAny_bind (noE (I.quiet (i + 1) f1 _ H1 s1 target val j1 o2) ?_)
    rintro _ _ rfl
    refine wpAny_bind (noE (turn i out H v H1 hlt h it1 A env _ _ val r (ibP.with d2) ((fm2.clean hv).withF hl2) o2 iv) ?_)
    rintro _ s2 ⟨v2, H2, fm3, o3, h3⟩
    refine wpAny_bind (noE (hem i f1 hlt j1 out v2 H2 s2 ⟨outv, c, ao, fm3.noF hl2, o3, d2, hl2⟩ h3) ?_)
    rintro _ s3 ⟨out', v', H', a3, h4⟩
    exact wpAny_pure ⟨rfl, n - (i + 1), by omega, i + 1, f1, out', v', H', hlt, rfl, a3, j1, h4⟩
  · have e : i = n := by omega
    subst e
    refine noE (I.done f P' H s j ib' d' r o' (req _ _ _ h)) ?_
    rintro _ s1 ⟨rfl, o1⟩
    obtain ⟨fm2, _, o2, _⟩ := back H s1 ⟨fun _ => none, fun _ => none⟩ (dis_nil _) (by rw [with_nil]; exact o1)
    exact wpAny_pure ⟨out, H, vars, ⟨outv, c, ao, fm2, o2, dis_nil _, rfl⟩, h⟩
end
section
theorem with_put_eq {P : Pr} {f : Foot} {D : Addr} {ob : Obj} (h : f.obj D = none) : (P.put D ob).with f = (P.with f).put D ob := by
  have e : ((P.put D ob).with f).obj = ((P.with f).put D ob).obj := funext (with_put ob h)
  have e2 : ((P.put D ob).with f).gen = ((P.with f).put D ob).gen := rfl
  have e3 : ((P.put D ob).with f).os = ((P.with f).put D ob).os := rfl
  generalize (P.put D ob).with f = X at *
  generalize (P.with f).put D ob = Y at *
  cases X; cases Y; simp_all
theorem Dis.notD {P : Pr} {f : Foot} {D : Addr} {ob : Obj} (d : Dis (P.put D ob) f) : f.obj D = none := by
  cases q : f.obj D with
  | none => rfl
  | some y => have := d.obj D y q; rw [Pr.put_self] at this; cases this
theorem Dis.chg {P : Pr} {f : Foot} {D : Addr} {ob : Obj} (d : Dis (P.put D ob) f) (ob' : Obj) : Dis (P.put D ob') f := ⟨fun a y q => by
  have : a ≠ D := by rintro rfl; rw [d.notD] at q; cases q
  rw [Pr.put_ne _ _ this]; have z := d.obj a y q; rw [Pr.put_ne _ _ this] at z; exact z, d.gen⟩
section
variable {B : Base} {k : Nat} {F : FI} {P : Pr} {D : Addr} {env : Env} {A : Around}
/-- an item appended -/
theorem emits_append {f : Foot} {elt : PySem.Expr} {Pre : List V → List (Option V) → Hp → Prop} {Post : List V → Hp → Prop} (r : Room k A) (ib : B.In P) (hD : P.obj D = none)
    (h : ∀ out v H, Pre out v H → out.length ≤ sizeLine ∧ WE B k F elt v H fun x H4 => Post (out ++ [x]) H4) :
    Emits B k F P D env A (eval elt env >>= fun x => PySem.call (.builtin "list.append") [.ref D, x] >>= fun _ => pure ()) f Pre Post := by
  rintro out v H s ⟨outv, c, ao, fm, o, d, hl⟩ hp
  obtain ⟨hz, hw⟩ := h out v H hp
  have ibP : B.In (P.put D (accObj outv.toArray c)) := fun a x e => by
    have : a ≠ D := by rintro rfl; have := ib a x e; rw [hD] at this; cases this
    rw [Pr.put_ne _ _ this]; exact ib a x e
  have hlD : env.locals ≠ D := by
    rintro e
    have := fm.locP
    rw [e, Pr.put_self] at this; cases this
  refine wpAny_bind (wpAny_mono (hw A env _ s r (ibP.with d) (fm.withF hl) o) ?_ fun _ _ e => e)
  rintro x s4 ⟨xv, H4, ix, fm5, o5, h5⟩
  have hDo : s4.heap.get? D = some (accObj outv.toArray c) := o5.prot D _ (Pr.with_of d (Pr.put_self _ _ _))
  refine wpAny_bind (wpAny_list_append_plain ⟨c, hDo⟩ (fun h' hpl hs => ?_) (by simp only [List.size_toArray]; rw [← ao.length]; exact hz))
  obtain ⟨c', e'⟩ := hpl
  have e2 : (outv.toArray.push x) = (outv ++ [x]).toArray := by simp
  rw [e2] at e'
  have hfD := d.notD
  have o6 := o5.updP (Pr.with_of d (Pr.put_self _ _ _)) hs e' s4.toks
  have o7 : Ok ((P.put D (accObj (outv ++ [x]).toArray c')).with f) H4 { s4 with heap := h', toks := s4.toks } := by
    rw [with_put_eq hfD]
    rw [with_put_eq hfD] at o6
    refine o6.weak (fun a y q => ?_) (fun _ _ h => h) (fun _ _ h => h) rfl
    by_cases e : a = D
    · subst e; rw [Pr.put_self] at q ⊢; exact q
    · rw [Pr.put_ne _ _ e] at q ⊢; rw [Pr.put_ne _ _ e]; exact q
  refine wpAny_pure ⟨out ++ [xv], v, H4, ⟨outv ++ [x], c', ao.append (.cons ix .nil), ?_, o7, d.chg _, hl⟩, h5⟩
  exact (fm5.noF hl).mono (fun _ e => (hs.2 _ hlD).trans e) (fun _ => fm5.locH) fun _ => by
    have := (fm5.noF hl).locP
    rw [Pr.put_ne _ _ hlD] at this ⊢; exact this
theorem codeAny_compStart2 {prog : Program} {w : World} {A : Around} {R : Result → Shared → Prop} {s : Shared} {elt : PySem.Expr} {g0 : Comprehension} {target iter : PySem.Expr} {ifs : List PySem.Expr} {scope : Scope} {pos : Pos} {it acc : Value} {env : Env}
    (h0 : codeAny (model prog w) A (.compLoop (.ListComp elt [g0, ⟨target, iter, ifs, 0⟩] scope pos) 1 it acc env) R s)
    (h : wpAny (model prog w) A (pyIter it) (fun it' s' => codeAny (model prog w) A (.compLoop (.ListComp elt [g0, ⟨target, iter, ifs, 0⟩] scope pos) 1 it' acc env) R s')
      (notedBy (model prog w) A env fun x s' => R (.error x) s') s) :
    codeAny (model prog w) A (.compStart (.ListComp elt [g0, ⟨target, iter, ifs, 0⟩] scope pos) 1 it acc env) R s := by
  refine codeAny_of_tree ?_
  show wpAny _ _ ((compStart (.ListComp elt [g0, ⟨target, iter, ifs, 0⟩] scope pos) 1 it acc env).onRaise (fun x => do noteFrame x env; standAt theWindowsPlace)) _ _ s
  refine wpAny_notedAt ?_
  unfold compStart
  show wpAny _ _ (ask >>= _) _ _ s
  refine wpAny_bind (wpAny_askSetting (wpAny_ite ?_))
  split
  · first
      | exact wpAny_bind (wpAny_pure (wpAny_pure (And.intro rfl h0)))
      | exact wpAny_pure (And.intro rfl h0)
  · first
      | exact wpAny_bind (wpAny_rule (wpAny_bind (wpAny_standAt (wpAny_bind (wpAny_mono h (fun it' s' h' => wpAny_pure (And.intro rfl h')) fun _ _ x => x)))))
      | (refine wpAny_bind (wpAny_rule ?_); show wpAny _ _ (standAt iter.pos >>= _) _ _ s; exact wpAny_bind (wpAny_standAt (wpAny_bind (wpAny_mono h (fun it' s' h' => wpAny_pure (And.intro rfl h')) fun _ _ x => x))))
/-- what is asked of the inner loop -/
def InOk (B : Base) (k : Nat) (F : FI) (vs0 : List (Option V)) (elt t2 : PySem.Expr) (out : List V) (Post : List V → Hp → Prop) (n : Nat) (Req : Hp → Prop) (Item : Nat → Hp → V → Hp → Prop) (H1 : Hp) : Prop :=
  ∃ Inv : Nat → List V → Hp → Prop, (∀ i v H, Inv i v H → Req H) ∧ Inv 0 out H1 ∧
    (∀ i out H v H1, i < n → Inv i out H → Item i H v H1 → WA B k F t2 v vs0 H1 fun v2 H2 => out.length ≤ sizeLine ∧ WE B k F elt v2 H2 fun x H4 => Inv (i + 1) (out ++ [x]) H4) ∧ (∀ out H, Inv n out H → Post out H)
theorem emits_inner {f : Foot} {elt t1 ie1 t2 ie2 : PySem.Expr} {scope : Scope} {pos : Pos} {vs0 : List (Option V)} (hv : vs0.all (·.isNone) = true) {Pre : List V → List (Option V) → Hp → Prop} {Post : List V → Hp → Prop} (r : Room k A) (ib : B.In P) (hD : P.obj D = none)
    (hs : ∀ env x, foldedSetIterable ie2 env x = pure x)
    (h : ∀ out v H, Pre out v H → WIt B k F ie2 v H (InOk B k F vs0 elt t2 out Post)) :
    Emits B k F P D env A (eval ie2 env >>= fun x => standAt ie2.pos >>= fun _ => foldedSetIterable ie2 env x >>= fun x => holding [x] (pyIter x) >>= fun it => runOwn (.compStart (.ListComp elt [⟨t1, ie1, [], 0⟩, ⟨t2, ie2, [], 0⟩] scope pos) 1 it (.ref D) env) env >>= fun _ => pure ()) f Pre Post := by
  rintro out v H s ⟨outv, c, ao, fm, o, d, hl⟩ hp
  have ibP : B.In (P.put D (accObj outv.toArray c)) := fun a x e => by
    have : a ≠ D := by rintro rfl; have := ib a x e; rw [hD] at this; cases this
    rw [Pr.put_ne _ _ this]; exact ib a x e
  have hfD := d.notD
  have key := h out v H hp A env _ s (fun it s' => wpAny B.M A (runOwn (.compStart (.ListComp elt [⟨t1, ie1, [], 0⟩, ⟨t2, ie2, [], 0⟩] scope pos) 1 it (.ref D) env) env) (fun _ s' => ∃ out' v' H', Acc2 P D F env f out' v' H' s' ∧ Post out' H') (fun _ _ => False) s') r (ibP.with d) (fm.withF hl) o ?_
  · refine wpAny_bind (wpAny_mono key (fun x s1 h1 => wpAny_bind (wpAny_standAt ?_)) fun _ _ e => e)
    rw [hs]
    exact wpAny_bind (wpAny_pure (wpAny_bind (wpAny_holding (wpAny_mono h1 (fun it s2 h2 => wpAny_bind (wpAny_mono h2 (fun _ s3 h3 => wpAny_pure h3) fun _ _ e => e)) fun _ _ e => e))))
  rintro it J f2 n Req Item H1 s' I self j d2 o2 fm2 hl2 ⟨Inv, hreq, h0, hturn, hfin⟩
  have hDw : (P.with f).obj D = none := by show (f.obj D).or (P.obj D) = none; rw [hfD, hD]; rfl
  rw [with_put_eq hfD] at d2 o2 fm2
  have ibw : B.In (P.with f) := fun a x e => by
    have e2 := (ibP.with d) a x e
    rw [with_put_eq hfD] at e2
    have : a ≠ D := by rintro rfl; have := ib a x e; rw [hD] at this; cases this
    rw [Pr.put_ne _ _ this] at e2; exact e2
  have lp : codeAny B.M A (.compLoop (.ListComp elt [⟨t1, ie1, [], 0⟩, ⟨t2, ie2, [], 0⟩] scope pos) 1 it (.ref D) env) (Out2 n Inv (P.with f) D F env) s' :=
    loop2 I hv (p := ie2.pos) (emit := eval elt env >>= fun x => PySem.call (.builtin "list.append") [.ref D, x] >>= fun _ => pure ()) rfl Inv hreq (fun i out v2 H2 => out.length ≤ sizeLine ∧ WE B k F elt v2 H2 fun x H4 => Inv (i + 1) (out ++ [x]) H4) hturn
      (fun i f2 _ _ => emits_append r ibw hDw fun _ _ _ q => q) r ibw hDw ⟨outv, c, ao, fm2, o2, d2, hl2⟩ j h0
  have fin : ∀ fl s3, Out2 n Inv (P.with f) D F env (.ok fl) s3 → ∃ out' v' H', Acc2 P D F env f out' v' H' s3 ∧ Post out' H' := by
    rintro fl s3 ⟨out', H', v', ⟨outv', c', ao', fm3, o3, _, _⟩, hI⟩
    rw [with_nil, ← with_put_eq hfD] at o3
    rw [← with_put_eq hfD] at fm3
    exact ⟨out', v', H', ⟨outv', c', ao', fm3.noF hl, o3, d.chg _, hl⟩, hfin _ _ hI⟩
  refine wpAny_runOwn (codeAny_mono (codeAny_compStart2 lp (noE (self _ f2 H1 s' j o2) ?_)) ?_)
  · rintro v s5 ⟨rfl, rfl⟩; exact lp
  · rintro (_ | fl) s3 h3
    · exact h3.elim
    · exact fin fl s3 h3
end
end
section
theorem compTurn2 {elt t1 ie1 t2 ie2 : PySem.Expr} {scope : Scope} {pos : Pos} {it acc : Value} {env : Env} :
    compTurn (.ListComp elt [⟨t1, ie1, [], 0⟩, ⟨t2, ie2, [], 0⟩] scope pos) 0 it acc env = (standAt ie1.pos >>= fun _ => pyNext it >>= fun r => match r with
      | none => pure (.done .next)
      | some v => letOwnedTupleGo t1 it v >>= fun _ => assign t1 env v >>= fun _ =>
        (eval ie2 env >>= fun x => standAt ie2.pos >>= fun _ => foldedSetIterable ie2 env x >>= fun x => holding [x] (pyIter x) >>= fun it => runOwn (.compStart (.ListComp elt [⟨t1, ie1, [], 0⟩, ⟨t2, ie2, [], 0⟩] scope pos) 1 it acc env) env >>= fun _ => pure ()) >>= fun _ =>
        PySem.again (.compLoop (.ListComp elt [⟨t1, ie1, [], 0⟩, ⟨t2, ie2, [], 0⟩] scope pos) 0 it acc env)) := by
  simp only [bind_assoc, pure_bind]
  rfl
section
variable {B : Base} {k : Nat} {F : FI} {vars : List (Option V)} {H : Hp}
def Comp2Ok (B : Base) (k : Nat) (F' : FI) (vs0 : List (Option V)) (elt t1 t2 ie2 : PySem.Expr) (Ψ : Addr → Hp → Prop) (n : Nat) (Req : Hp → Prop) (Item : Nat → Hp → V → Hp → Prop) (H1 : Hp) : Prop :=
  ∃ Inv : Nat → List V → Hp → Prop, (∀ i v H, Inv i v H → Req H) ∧ Inv 0 [] H1 ∧
    (∀ i out H v H1, i < n → Inv i out H → Item i H v H1 → WA B k F' t1 v vs0 H1 fun v2 H2 => WIt B k F' ie2 v2 H2 (InOk B k F' vs0 elt t2 out (Inv (i + 1)))) ∧
    (∀ out H' D, Inv n out H' → H' D = none → Ψ D (put H' D (.list out)))
theorem WE.comp2 {elt t1 ie1 t2 ie2 : PySem.Expr} {scope : Scope} {pos : Pos} {Φ : V → Hp → Prop} (fcs : List (Str × Addr)) (names : List Str) (vs0 : List (Option V)) (L : CLooks scope F.sc (fcs.map (·.1)) names vs0) (hfc : ∀ p ∈ fcs, p ∈ F.cells)
    (h : WIt B k F ie1 vars H (Comp2Ok B k ⟨relab scope F.sc, names, fcs, none⟩ vs0 elt t1 t2 ie2 fun D H' => Φ (.ref D) H'))
    (hs : ∀ env x, foldedSetIterable ie1 env x = pure x := by intro _ _; with_unfolding_all rfl) (hs2 : ∀ env x, foldedSetIterable ie2 env x = pure x := by intro _ _; with_unfolding_all rfl) :
    WE B k F (.ListComp elt [⟨t1, ie1, [], 0⟩, ⟨t2, ie2, [], 0⟩] scope pos) vars H Φ := by
  intro A env P0 s r ib0 fm0 o0
  rw [eval_ListComp]
  refine wpAny_comprehension_free (cl := fcs.reverse) rfl (hs env) (closureFor_is L.fr fun p hp => fm0.cells p.1 p.2 (hfc p hp)) L.kind (fun x hx hl => ?_) ?_
  · have := List.all_eq_true.mp L.nm x hx
    rw [hl] at this
    exact eq_of_beq (by simpa using this)
  refine h A env P0 s _ r ib0 fm0 o0 fun it J f n Req Item H1 s2 I self j d0 o20 fm1 hloc hΨ => ?_
  obtain ⟨Inv, hreq, h0, hturn, hfin⟩ := hΨ
  obtain ⟨P, hP, d, o, back0⟩ := fm1.guardF o20 d0 hloc
  have back := backE back0
  have ib : B.In P := fun a x e => hP a x (ib0 a x e)
  refine wpAny_newObj_type ?_ (by show ([] : List Value).toArray.size ≤ sizeLine; simp)
  have hfD : f.obj s2.heap.objs.size = none := by
    cases q : f.obj s2.heap.objs.size with
    | none => rfl
    | some x => exact absurd (Heap.lt_size (o.foot q)) (Nat.lt_irrefl _)
  have hPD : P.obj s2.heap.objs.size = none := (o.drop d).newP
  have o1 : Ok ((P.put s2.heap.objs.size (accObj #[] 0)).with f) H1 { s2 with heap := s2.heap.push (accObj #[] 0) } := by
    rw [with_put_eq hfD]
    exact o.pushP (ob := accObj #[] 0) rfl s2.toks
  have d1 := d.put (accObj #[] 0) hfD
  rw [fm0.glob]
  refine env_new (fcs := fcs) none (fun _ _ e => nomatch e) (names := names) (vs := vs0) o1 L.kind L.co L.nd L.lo (by rw [L.noc]; exact L.ce) (by rw [L.noc]; exact .nil) L.vs (fun x c hm => by have := lookup_rev (acc := []) L.fnd hm; rwa [List.append_nil] at this)
    (fun x hx => by rw [L.noc] at hx; cases hx) (fun e he => by cases he; exact fm0.blt) fun cs cenv s4 h1 _ _ _ hsc hloc' fm o4 => ?_
  rw [L.noc] at h1
  have hcs : cs = [] := List.length_eq_zero_iff.mp h1
  subst hcs
  rw [List.forIn_nil]
  refine wpAny_pure ?_
  have hfl : f.obj cenv.locals = none := by
    have := fm.locP
    have : (f.obj cenv.locals).or ((P.put s2.heap.objs.size (accObj #[] 0)).obj cenv.locals) = none := this
    cases q : f.obj cenv.locals with
    | none => rfl
    | some x => rw [q] at this; cases this
  have fm' : Fm ⟨relab scope F.sc, names, fcs, none⟩ { cenv with scope := relabel scope env } vs0 (P.put s2.heap.objs.size (accObj #[] 0)) H1 s4 := by
    refine ⟨by show relabel scope env = _; rw [relabel_eq, fm0.sc], L.kind, fm.glob, fm.blt, L.nd, L.lo', L.ce', ?_, fm.locH, fm.ns, fun x c hm => fm.cells x c (List.mem_append_right _ hm), L.co, fun _ _ e => nomatch e⟩
    have := fm.locP
    have : (f.obj cenv.locals).or ((P.put s2.heap.objs.size (accObj #[] 0)).obj cenv.locals) = none := this
    rw [hfl] at this; exact this
  have fin : ∀ fl s5, Out2 n Inv P s2.heap.objs.size ⟨relab scope F.sc, names, fcs, none⟩ { cenv with scope := relabel scope env } (.ok fl) s5 → compPost B.M A (fun _ _ => False) none (fun val s' => ∃ v H', Is v val ∧ Fm F env vars P0 H' s' ∧ Ok P0 H' s' ∧ Φ v H') (.ref s2.heap.objs.size) cenv.locals (.ok fl) s5 := by
    rintro fl s5 ⟨out, H', vars', ⟨outv, c, ao, fm5, o5, _, _⟩, hI⟩
    rw [with_nil] at o5
    obtain ⟨m, hm, _⟩ := fm5.ns
    have hne : cenv.locals ≠ s2.heap.objs.size := by
      rw [hloc'.1]
      show (s2.heap.push _).objs.size ≠ _
      rw [Heap.size_push]; exact Nat.succ_ne_self _
    have hPC : P.obj cenv.locals = none := by have := fm5.locP; rw [Pr.put_ne _ _ hne] at this; exact this
    have hD' : H' s2.heap.objs.size = none := o5.dis _ _ (Pr.put_self _ _ _)
    have o6 : Ok P (put H' s2.heap.objs.size (.list out)) s5 := o5.reveal hPD (.list c ao)
    refine ⟨m, hm, fun h' hsb => ?_⟩
    have o7 : Ok P (put H' s2.heap.objs.size (.list out)) { s5 with heap := h' } := o6.updN hPC (by rw [put_ne _ _ hne]; exact fm5.locH) hsb s5.toks
    exact ⟨_, _, .ref _, (back _ _ o7).1, (back _ _ o7).2, hfin _ _ _ hI hD'⟩
  have loop := loop2 I L.vs (elt := elt) (gens := [⟨t1, ie1, [], 0⟩, ⟨t2, ie2, [], 0⟩]) (scope := scope) (pos := pos) (dep := 0) (p := ie1.pos) (env := { cenv with scope := relabel scope env }) (P := P) (D := s2.heap.objs.size)
    (emit := eval ie2 { cenv with scope := relabel scope env } >>= fun x => standAt ie2.pos >>= fun _ => foldedSetIterable ie2 { cenv with scope := relabel scope env } x >>= fun x => holding [x] (pyIter x) >>= fun it => runOwn (.compStart (.ListComp elt [⟨t1, ie1, [], 0⟩, ⟨t2, ie2, [], 0⟩] scope pos) 1 it (.ref s2.heap.objs.size) { cenv with scope := relabel scope env }) { cenv with scope := relabel scope env } >>= fun _ => pure ())
    compTurn2 Inv hreq (fun i out v2 H2 => WIt B k ⟨relab scope F.sc, names, fcs, none⟩ ie2 v2 H2 (InOk B k ⟨relab scope F.sc, names, fcs, none⟩ vs0 elt t2 out (Inv (i + 1)))) hturn
    (fun i f _ _ => emits_inner L.vs r ib hPD hs2 fun _ _ _ q => q) r ib hPD ⟨[], 0, .nil, fm', o4, d1, hfl⟩ j h0
  have all : ∀ r' s5, Out2 n Inv P s2.heap.objs.size ⟨relab scope F.sc, names, fcs, none⟩ { cenv with scope := relabel scope env } r' s5 → compPost B.M A (fun _ _ => False) none (fun val s' => ∃ v H', Is v val ∧ Fm F env vars P0 H' s' ∧ Ok P0 H' s' ∧ Φ v H') (.ref s2.heap.objs.size) cenv.locals r' s5 := by
    rintro (_ | fl) s5 h5
    · exact h5.elim
    · exact fin fl s5 h5
  refine codeAny_compStart_list (codeAny_mono loop all) (noE (self _ f H1 s4 j o4) ?_)
  rintro v s5 ⟨rfl, rfl⟩
  exact codeAny_mono loop all
end
end
section

theorem Rows.item {B : Base} {k : Nat} {H0 H : Hp} {p : Addr} {as : List Addr} {rs : List (List Nat)} {κ : Nat} {Φ : V → Hp → Prop} (R : Rows H0 H p as rs) (hκ : κ < rs.length) (hz : rs.length ≤ 1000) (h : ∀ a, as[κ]? = some a → H a = some (.list (vN (pile rs κ))) → Φ (.ref a) H) : WItem B k (.ref p) (.int κ) H Φ := by
  obtain ⟨a, h1, h2⟩ := R.get hκ
  exact item_list (.of R.top) (by omega) (by omega) (R.at h1) (h a h1 h2)
theorem comp_rows {B : Base} {k n : Nat} {F' : FI} {vs0 : List (Option V)} {p p2 : Pos} {x : Str} {Ψ : Addr → Hp → Prop} {H1 : Hp} (hn : n ≤ 1000) (hc : rgCount 0 n 1 = n) (hx : ∀ v, ∃ us, SetAt F'.names vs0 x v us) (h : ∀ d as H', Ext H1 H' → Rows H1 H' d as (List.replicate n []) → H1 d = none → Ψ d H') :
    CompOk B k F' vs0 (.List [] p) (.Name x p2) [] Ψ (rgCount 0 n 1) (fun _ => True) (fun i H v H' => v = .int (0 + i * 1) ∧ H' = H) H1 := by
  refine CompOk.new (fun i out H' => Ext H1 H' ∧ ∃ as : List Addr, out = as.map V.ref ∧ as.length = i ∧ as.Nodup ∧ ∀ a ∈ as, H1 a = none ∧ H' a = some (.list [])) ?_ ⟨Ext.refl _, [], rfl, rfl, .nil, fun _ h => nomatch h⟩ (fun _ _ _ _ => trivial) ?_ ?_
  · rw [hc]; exact Nat.le_trans hn (by decide +kernel)
  · rintro i out H v H2 hi ⟨xE, as, rfl, hl, nd, ha⟩ ⟨rfl, rfl⟩
    obtain ⟨us, hus⟩ := hx (.int (0 + i * 1))
    refine WA.name (WSt.loc hus ?_)
    refine ⟨fun _ => ?_, fun h => nomatch h⟩
    refine WE.listN ?_
    repeat walk_at "M"
    refine ⟨by decide +kernel, fun b H3 n3 e3 f3 => ?_⟩
    refine ⟨xE.trans e3, as ++ [b], by simp, by simp [hl], ?_, fun a hm => ?_⟩
    · refine List.nodup_append.mpr ⟨nd, by simp, fun a hm c hc e => ?_⟩
      have hcb : c = b := by simpa using hc
      rw [e, hcb] at hm
      have := (ha b hm).2
      rw [n3] at this; cases this
    · rcases List.mem_append.mp hm with hm | hm
      · exact ⟨(ha a hm).1, e3 _ _ (ha a hm).2⟩
      · rw [List.mem_singleton.mp hm]; exact ⟨xE.new n3, f3⟩
  · rintro out H d H' ⟨xE, as, rfl, hl, nd, ha⟩ nd' e' f'
    rw [hc] at hl
    refine h d as H' (xE.trans e') ⟨f', fun i a hi => ?_, nd, fun hm => ?_, fun a hm => (ha a hm).1, by simp [hl]⟩ (xE.new nd')
    · have hlt := (List.getElem?_eq_some_iff.mp hi).1
      exact ⟨[], by rw [List.getElem?_replicate, if_pos (by omega)], by rw [e' _ _ (ha a (List.mem_of_getElem? hi)).2]; rfl⟩
    · have := (ha d hm).2
      rw [nd'] at this; cases this
theorem rg6 : rgCount 0 6 1 = 6 := by decide +kernel
theorem Rows.base {H0 H1 H : Hp} {p : Addr} {as : List Addr} {rs : List (List Nat)} (R : Rows H1 H p as rs) (x : Ext H0 H1) : Rows H0 H p as rs := ⟨R.top, R.rows, R.nd, R.np, fun a h => x.new (R.new a h), R.len⟩
theorem getD_at {l : List Nat} {i : Nat} (h : i < l.length) : l[i]? = some (l.getD i 0) := by rw [List.getD_eq_getElem?_getD, List.getElem?_eq_getElem h]; rfl

/-! words laid into rows -/
def insK : Nat → List (List Nat) → Nat → Nat → Option (List (List Nat) × Nat)
  | 0, _, _, _ => none
  | f + 1, rows, k, n => if k < rows.length ∧ (pile rows k).length ≤ 10 then (if bisR (pile rows k) n < (pile rows k).length then insK f (rows.set k ((pile rows k).set (bisR (pile rows k) n) n)) (k + 1) ((pile rows k).getD (bisR (pile rows k) n) 0) else some (rows.set k (pile rows k ++ [n]), k)) else none
def laidRun : List Nat → List (List Nat) × List Nat → Option (List (List Nat) × List Nat)
  | [], st => some st
  | n :: r, st => (insK 7 st.1 0 n).bind fun q => laidRun r (q.1, st.2 ++ [q.2])
theorem insK_len : ∀ (f : Nat) (rows : List (List Nat)) (k n : Nat) (q : List (List Nat) × Nat), insK f rows k n = some q → q.1.length = rows.length
  | 0, _, _, _, _, h => by simp [insK] at h
  | f + 1, rows, k, n, q, h => by
    rw [insK] at h
    split at h
    · split at h
      · have := insK_len f _ _ _ _ h; simpa using this
      · cases h; simp
    · cases h
theorem insK_guard {f : Nat} {rows : List (List Nat)} {k n : Nat} {q : List (List Nat) × Nat} (h : insK f rows k n = some q) : k < rows.length ∧ (pile rows k).length ≤ 10 := by
  cases f with
  | zero => simp [insK] at h
  | succ f =>
    rw [insK] at h
    split at h
    · rename_i hh; exact hh
    · cases h
structure Blt2 (B : Base) : Prop where
  l1 : B.mg "len" = none
  l2 : B.mb "len" = some (.builtin "len")
  r1 : B.mg "range" = none
  r2 : B.mb "range" = some (.type "range")
theorem laid_ok {B : Base} {k a ar : Nat} (D : Def2 B 66 a .none .none) (b : Blt2 B) (gb : Bis B 5 ar "bisect_right") {H : Hp} {l : Addr} {w told : List Nat} {rows : List (List Nat)} {Φ : V → Hp → Prop} (hl : H l = some (.list (vN w))) (hw : w.length ≤ 100) (hr : laidRun w (List.replicate 6 [], []) = some (rows, told)) (hz : rows.reverse.flatten.length ≤ 1000)
    (h : ∀ H' t r d, Ext H H' → H' t = some (.tup [.ref r, .ref d]) → H' r = some (.list (vN rows.reverse.flatten)) → H' d = some (.list (vN told)) → Φ (.ref t) H') : WC B (k + 2) (.ref a) [.ref l] H Φ := by
  obtain ⟨g1, g2, g3, g4⟩ := b
  have gm := gb.mg
  refine WC.def0 D ?_ (names := ["word", "k", "rows", "told", "number", "place"]) (vs0 := [none, none, none, none, none, none]) (bs := [("word", .ref l)]) (binding_plain (names := ["word"]) rfl ?_) (by decide +kernel) (by with_unfolding_all rfl) ?_
  · walk_at "LK"
  · walk_at "B1"
  repeat walk_at "M"
  refine WSs.assignC [] ["k"] [none] ?_ (fun _ h => nomatch h) ?_ ?_
  · walk_at "CL"
  case refine_3 => walk_at "SW"
  refine WIt.rangeN 0 6 1 ?_
  repeat walk_at "M"
  intro r0 H1 n1 e1 f1
  refine ⟨r0, rfl, f1, by decide +kernel, by decide +kernel, comp_rows (n := 6) (by decide) rg6 (fun v => ⟨_, .head⟩) fun d as H2 e2 R2 n2 => ?_⟩
  repeat walk_at "M"
  refine ⟨by decide +kernel, fun r H3 n3 e3 f3 => ?_⟩
  repeat walk_at "M"
  have x3 : Ext H H3 := e1.trans (e2.trans e3)
  have nr : H r = none := (e1.trans e2).new n3
  have R3 : Rows H H3 d as (List.replicate 6 []) := (R2.base e1).ext e3
  have hrd : r ≠ d := Ne.symm (ne_of R2.top n3)
  have hra : r ∉ as := fun hm => by
    obtain ⟨i, hi⟩ := List.mem_iff_getElem?.mp hm
    obtain ⟨_, _, hh⟩ := R2.rows i r hi
    rw [n3] at hh; cases hh
  have S3 : H3 r = some (.list (vN [])) := f3
  clear e1 e2 e3 n1 n2 n3 R2 f3 f1
  refine WSs.for (WIt.list ?_)
  repeat walk_at "M"
  refine ⟨l, _, rfl, x3 _ _ hl, fun i vars H' => Ext H H' ∧ ∃ (rs : List (List Nat)) (ts : List Nat) (o1 o2 o3 : Option V), laidRun (w.drop i) (rs, ts) = some (rows, told) ∧ rs.length = 6 ∧ ts.length = i ∧ Rows H H' d as rs ∧ H' r = some (.list (vN ts)) ∧ vars = [some (.ref l), o1, some (.ref d), some (.ref r), o2, o3], ?_, ?_, ?_, ?_⟩
  · exact ⟨x3, _, _, none, none, none, hr, by simp, rfl, R3, S3, rfl⟩
  · rintro i v H' ⟨xE, _⟩; exact xE _ _ hl
  · rintro i vars H' v H6 hi ⟨xE, rs, ts, o1, o2, o3, hrun, hrl, htl, R, S, rfl⟩ ⟨hit, rfl⟩
    have hi' : i < w.length := by simpa using hi
    obtain ⟨n, hn⟩ : ∃ n, w[i]? = some n := ⟨_, List.getElem?_eq_getElem hi'⟩
    obtain rfl : v = .int (n : Int) := by simpa [vN, hn] using hit.symm
    have hdr : w.drop i = n :: w.drop (i + 1) := by
      rw [List.drop_eq_getElem_cons hi']
      rw [List.getElem?_eq_getElem hi'] at hn
      rw [Option.some.inj hn]
    rw [hdr, laidRun] at hrun
    obtain ⟨⟨rs', κ'⟩, hins, hrun⟩ := Option.bind_eq_some_iff.mp hrun
    have hrl' := insK_len _ _ _ _ _ hins
    obtain ⟨q0, q10⟩ := insK_guard hins
    dsimp only at q0 q10
    repeat walk_at "M"
    refine Rows.item (κ := 0) R q0 (by omega) fun a0 ha0 hA0 => ?_
    repeat walk_at "M"
    refine ⟨DefAt.callee gb.df.choose_spec.choose_spec.1 _, fun _ i => ?_⟩
    cases i
    refine br_ok gb hA0 (by omega) ?_
    repeat walk_at "M"
    refine WSs.while (fun m vars H' => Ext H H' ∧ ∃ (rs1 : List (List Nat)) (κ n : Nat), insK m rs1 κ n = some (rs', κ') ∧ rs1.length = 6 ∧ Rows H H' d as rs1 ∧ H' r = some (.list (vN ts)) ∧ vars = [some (.ref l), some (.int κ), some (.ref d), some (.ref r), some (.int n), some (.int (bisR (pile rs1 κ) n : Nat))]) 7 ?_ ?_
    · exact ⟨xE, rs, 0, n, hins, hrl, R, S, rfl⟩
    rintro m vars H7 ⟨xE, rs1, κ, n, hins, hrl, R, S, rfl⟩
    obtain ⟨hκ, hκ10⟩ := insK_guard hins
    cases m with
    | zero => simp [insK] at hins
    | succ m =>
    rw [insK, if_pos ⟨hκ, hκ10⟩] at hins
    repeat walk_at "M"
    refine Rows.item R hκ (by omega) fun a1 ha1 hA1 => ?_
    repeat walk_at "M"
    refine len_nat hA1 (by omega) ?_
    repeat walk_at "M"
    refine ⟨fun hc => ?_, fun hc => ?_⟩
    · have hsp : bisR (pile rs1 κ) n < (pile rs1 κ).length := by simpa using hc
      rw [if_pos hsp] at hins
      obtain ⟨g1', g2'⟩ := insK_guard hins
      refine WSs.assignT ?_ (hw := by intro env h; obtain ⟨⟩ := env; cases h; rfl)
      repeat walk_at "M"
      refine Rows.item R hκ (by omega) fun a1 ha1 hA1 => ?_
      repeat walk_at "M"
      refine item_nat hA1 (getD_at hsp) (by omega) ?_
      repeat walk_at "M"
      refine ⟨by show 2 ≤ sizeLine; decide +kernel, fun t H8 n8 e8 f8 => ?_⟩
      have R8 := R.ext e8
      have S8 := e8 _ _ S
      have hA8 := e8 _ _ hA1
      have xE8 := xE.trans e8
      refine WA.tup f8 ?_
      repeat walk_at "M"
      refine Rows.item R8 hκ (by omega) fun a2 ha2 hA2 => ?_
      repeat walk_at "M"
      refine set_nat hA2 hsp (by omega) ?_
      have R9 := R8.set ha2 ((pile rs1 κ).set (bisR (pile rs1 κ) n) n)
      have hm : a2 ∈ as := List.mem_of_getElem? ha2
      have S9 : put H8 a2 (.list (vN ((pile rs1 κ).set (bisR (pile rs1 κ) n) n))) r = some (.list (vN ts)) := by rw [put_ne _ _ (by rintro rfl; exact hra hm)]; exact S8
      have xE9 : Ext H (put H8 a2 (.list (vN ((pile rs1 κ).set (bisR (pile rs1 κ) n) n)))) := xE8.put _ (R8.new _ hm)
      generalize put H8 a2 (.list (vN ((pile rs1 κ).set (bisR (pile rs1 κ) n) n))) = H9 at R9 S9 xE9
      repeat walk_at "M"
      refine Rows.item (κ := κ + 1) R9 g1' (by simp; omega) fun a3 ha3 hA3 => ?_
      repeat walk_at "M"
      refine ⟨DefAt.callee gb.df.choose_spec.choose_spec.1 _, fun _ i => ?_⟩
      cases i
      refine br_ok gb hA3 (by omega) ?_
      repeat walk_at "M"
      exact ⟨m, by omega, xE9, _, κ + 1, _, hins, by simpa using hrl, R9, S9, rfl⟩
    · have hsp : ¬ bisR (pile rs1 κ) n < (pile rs1 κ).length := by simpa using hc
      rw [if_neg hsp] at hins
      obtain ⟨h1', h2'⟩ := Prod.mk.inj (Option.some.inj hins)
      subst h1' h2'
      repeat walk_at "M"
      refine Rows.item R hκ (by omega) fun a2 ha2 hA2 => ?_
      refine ⟨mty_list hA2, ?_⟩
      repeat walk_at "M"
      refine append_nat hA2 (by omega) ⟨rfl, ?_⟩
      have hm : a2 ∈ as := List.mem_of_getElem? ha2
      have R9 := R.set ha2 (pile rs1 κ ++ [n])
      have S9 : put H7 a2 (.list (vN (pile rs1 κ ++ [n]))) r = some (.list (vN ts)) := by rw [put_ne _ _ (by rintro rfl; exact hra hm)]; exact S
      have xE9 : Ext H (put H7 a2 (.list (vN (pile rs1 κ ++ [n])))) := xE.put _ (R.new _ hm)
      generalize put H7 a2 (.list (vN (pile rs1 κ ++ [n]))) = H9 at R9 S9 xE9
      repeat walk_at "M"
      refine ⟨mty_list S9, ?_⟩
      repeat walk_at "M"
      refine append_nat S9 (by omega) ⟨rfl, ?_⟩
      repeat walk_at "M"
      exact ⟨xE9.put _ nr, _, _, _, _, _, hrun, by simpa using hrl, by simp; omega, R9.ne hra hrd _, put_self _ _ _, rfl⟩
  rintro vars H' ⟨xE, rs, ts, o1, o2, o3, hrun, hrl, htl, R, S, rfl⟩
  rw [show (vN w).length = w.length by simp, List.drop_length, laidRun] at hrun
  cases hrun
  repeat walk_at "M"
  refine WE.comp2 [] ["row", "number"] [none, none] ?_ (fun _ h => nomatch h) ?_
  · walk_at "CL"
  refine WIt.list ?_
  repeat walk_at "M"
  refine sl_revN (.of R.top) (by rw [List.length_map, R.len]; show _ ≤ 1 <<< 24; omega) fun rv H2 n2 e2 f2 => ?_
  have R2 := R.ext e2
  have hrv : (as.map V.ref).reverse.length = 6 := by rw [List.length_reverse, List.length_map, R.len, hrl]
  refine ⟨rv, _, rfl, f2, fun i out H' => H' = H2 ∧ out = vN ((rows.reverse.take i).flatten), ?_, ⟨rfl, rfl⟩, ?_, ?_⟩
  · rintro i v H' ⟨rfl, _⟩; exact f2
  · rintro i out H' v H3 hi ⟨rfl, rfl⟩ ⟨hit, rfl⟩
    rw [← List.map_reverse, List.getElem?_map, Option.map_eq_some_iff] at hit
    obtain ⟨ai, hai, rfl⟩ := hit
    have hi6 : i < 6 := by rw [hrv] at hi; exact hi
    have hai2 : as[as.length - 1 - i]? = some ai := by rw [← List.getElem?_reverse (by rw [R.len, hrl]; exact hi6)]; exact hai
    obtain ⟨row, hrow, hA⟩ := R2.rows _ _ hai2
    have hrow2 : rows.reverse[i]? = some row := by rw [List.getElem?_reverse (by rw [hrl]; exact hi6), ← R.len]; exact hrow
    have hft : (rows.reverse.take (i + 1)).flatten = (rows.reverse.take i).flatten ++ row := by rw [List.take_add_one, hrow2, List.flatten_append]; simp
    repeat walk_at "M"
    refine WIt.list ?_
    repeat walk_at "M"
    refine ⟨ai, _, rfl, hA, fun j out H' => H' = H3 ∧ out = vN ((rows.reverse.take i).flatten ++ row.take j), ?_, ⟨rfl, by simp⟩, ?_, ?_⟩
    · rintro j v H' ⟨rfl, _⟩; exact hA
    · rintro j out H' v H4 hj ⟨rfl, rfl⟩ ⟨hjt, rfl⟩
      have hj' : j < row.length := by simpa using hj
      have hm : row[j]? = some row[j] := List.getElem?_eq_getElem hj'
      obtain rfl : v = .int (row[j] : Int) := by rw [vN, List.getElem?_map, hm] at hjt; exact (Option.some.inj hjt).symm
      have hlen : ((rows.reverse.take i).flatten ++ row.take j).length ≤ 1000 := by
        have h1 : ((rows.reverse.take (i + 1)).flatten).length ≤ rows.reverse.flatten.length := by
          have e : rows.reverse.flatten.length = ((rows.reverse.take (i + 1)) ++ (rows.reverse.drop (i + 1))).flatten.length := by rw [List.take_append_drop]
          rw [e, List.flatten_append, List.length_append]; omega
        rw [hft, List.length_append] at h1
        rw [List.length_append, List.length_take]; omega
      repeat walk_at "M"
      refine ⟨by rw [List.length_map]; show _ ≤ 1 <<< 24; omega, ?_⟩
      repeat walk_at "M"
      refine ⟨rfl, ?_⟩
      rw [List.take_add_one, hm]
      simp only [vN, List.map_append, Option.toList, List.map_cons, List.map_nil, List.append_assoc]
    · rintro out H' ⟨rfl, rfl⟩
      refine ⟨rfl, ?_⟩
      rw [hft, show (vN row).length = row.length by simp, List.take_length]
  · rintro out H' Dd ⟨rfl, rfl⟩ nD
    rw [hrv, List.take_of_length_le (by rw [List.length_reverse, hrl]; exact Nat.le_refl _)]
    have xD : Ext H (put H' Dd (.list (vN rows.reverse.flatten))) := (xE.trans e2).put _ ((xE.trans e2).new nD)
    have SD : put H' Dd (.list (vN rows.reverse.flatten)) r = some (.list (vN told)) := put_get (e2 _ _ S) nD
    have DD : put H' Dd (.list (vN rows.reverse.flatten)) Dd = some (.list (vN rows.reverse.flatten)) := put_self _ _ _
    generalize put H' Dd (.list (vN rows.reverse.flatten)) = H5 at xD SD DD
    repeat walk_at "M"
    refine ⟨by show 2 ≤ sizeLine; decide +kernel, fun t H6 n6 e6 f6 => ?_⟩
    repeat walk_at "M"
    exact h _ _ _ _ (xD.trans e6) f6 (e6 _ _ DD) (e6 _ _ SD)
end
section
theorem WSs.exprAny {B : Base} {k : Nat} {F : FI} {vars : List (Option V)} {H : Hp} {e : PySem.Expr} {pos : Pos} {rest : List Stmt} {Φ : Fl → List (Option V) → Hp → Prop} (h : WE B k F e vars H fun _ H1 => WSs B k F rest vars H1 Φ)
    (hs : ∀ env, swapsWith e none pos.line env = pure false := by intro; with_unfolding_all rfl) : WSs B k F (.Expr e pos :: rest) vars H Φ := by
  refine WSs.cons fun A env P s r i f o => ?_
  refine wpAny_Expr_any (wpAny_mono (h A env P s r i f o) ?_ fun _ _ f => f.elim) (by unfold interactive; rw [f.fn]; rfl) (hs env)
  rintro val s1 ⟨v, H1, ia, f1, o1, h1⟩
  exact ⟨_, _, _, .next, f1, o1, h1⟩
/-! the piles -/
abbrev DSt := List Nat × List Nat
def dueStep (lo hi : Nat) (st : DSt) (p n : Nat) : DSt := if n = hi then (st.1, st.2 ++ [p]) else if n = lo then (if st.2 = [] then (st.1 ++ [p], st.2) else (st.1, st.2.dropLast)) else st
def dueRun (lo hi : Nat) : List Nat → Nat → DSt → DSt
  | [], _, st => st
  | n :: r, p, st => dueRun lo hi r (p + 1) (dueStep lo hi st p n)
def dueSet (loose : List Nat) (c lo hi : Nat) : Nat → List Nat → List Nat
  | 0, m => m
  | k + 1, m => (dueSet loose c lo hi k m).set (loose.getD k 0) (if k < c then lo else hi)
def dueP (w : List Nat) (lo hi : Nat) : List Nat :=
  let st := dueRun lo hi w 0 ([], [])
  dueSet (st.1 ++ st.2) st.2.length lo hi (st.1 ++ st.2).length w
theorem dueStep_ok {lo hi p n i : Nat} {st : DSt} (h : st.1.length ≤ i ∧ st.2.length ≤ i ∧ ∀ q ∈ st.1 ++ st.2, q < p) : (dueStep lo hi st p n).1.length ≤ i + 1 ∧ (dueStep lo hi st p n).2.length ≤ i + 1 ∧ ∀ q ∈ (dueStep lo hi st p n).1 ++ (dueStep lo hi st p n).2, q < p + 1 := by
  obtain ⟨a, b⟩ := st
  obtain ⟨h1, h2, h3⟩ := h
  dsimp only at h1 h2 h3
  unfold dueStep
  split
  · refine ⟨by dsimp only; omega, by simp; omega, fun q hq => ?_⟩
    simp only [List.mem_append, List.mem_singleton] at hq
    rcases hq with hq | hq | rfl
    · have := h3 q (List.mem_append_left _ hq); omega
    · have := h3 q (List.mem_append_right _ hq); omega
    · omega
  · split
    · split
      · refine ⟨by simp; omega, by dsimp only; omega, fun q hq => ?_⟩
        simp only [List.mem_append, List.mem_singleton] at hq
        rcases hq with (hq | rfl) | hq
        · have := h3 q (List.mem_append_left _ hq); omega
        · omega
        · have := h3 q (List.mem_append_right _ hq); omega
      · refine ⟨by dsimp only; omega, by simp; omega, fun q hq => ?_⟩
        rcases List.mem_append.mp hq with hq | hq
        · have := h3 q (List.mem_append_left _ hq); omega
        · have := h3 q (List.mem_append_right _ (List.dropLast_subset _ hq)); omega
    · refine ⟨by dsimp only; omega, by dsimp only; omega, fun q hq => ?_⟩
      have := h3 q hq; omega
theorem dueSet_len (loose : List Nat) (c lo hi : Nat) (m : List Nat) : ∀ k, (dueSet loose c lo hi k m).length = m.length
  | 0 => rfl
  | k + 1 => by rw [dueSet, List.length_set, dueSet_len]
theorem due_ok {B : Base} {k a : Nat} (D : Def2 B 67 a .none .none) (b : Blt2 B) {H : Hp} {l : Addr} {w : List Nat} {lo hi : Nat} {Φ : V → Hp → Prop} (hl : H l = some (.list (vN w))) (hw : w.length ≤ 100)
    (h : ∀ H' r, Ext H H' → H' r = some (.list (vN (dueP w lo hi))) → Φ (.ref r) H') : WC B (k + 1) (.ref a) [.ref l, .int lo, .int hi] H Φ := by
  obtain ⟨g1, g2, g3, g4⟩ := b
  refine WC.def0 D ?_ (names := ["word", "low", "high", "lows", "highs", "place", "loose", "made", "k"]) (vs0 := [none, none, none, none, none, none, none, none, none]) (bs := [("word", .ref l), ("low", .int lo), ("high", .int hi)]) (binding_plain (names := ["word", "low", "high"]) rfl ?_) (by decide +kernel) (by with_unfolding_all rfl) ?_
  · walk_at "LK"
  · intro vals hv fd hp hd hk
    match vals, hv with
    | [v1, v2, v3], _ => unfold bindArgs; rw [hp, hd]; rfl
  repeat walk_at "M"
  refine ⟨by decide +kernel, fun r1 H1 n1 e1 f1 => ?_⟩
  repeat walk_at "M"
  refine ⟨by decide +kernel, fun r2 H2 n2 e2 f2 => ?_⟩
  repeat walk_at "M"
  have x2 : Ext H H2 := e1.trans e2
  have nr1 : H r1 = none := n1
  have nr2 : H r2 = none := e1.new n2
  have h12 : r1 ≠ r2 := ne_of f1 n2
  have S1 : H2 r1 = some (.list (vN [])) := e2 _ _ f1
  have S2 : H2 r2 = some (.list (vN [])) := f2
  refine WSs.for (WIt.rangeN 0 w.length 1 ?_)
  repeat walk_at "M"
  refine len_nat (x2 _ _ hl) (by omega) ?_
  repeat walk_at "M"
  intro r3 H3 n3 e3 f3
  have hrg : rgCount 0 w.length 1 = w.length := by unfold rgCount; rw [rangeSize_nat]; simp
  have hln : H l ≠ none := by rw [hl]; exact fun h => nomatch h
  refine ⟨r3, rfl, f3, small_one (by omega) (by omega) (by omega) (by omega), by rw [rangeSize_nat]; omega, fun i vars H' => Ext H H' ∧ ∃ (st : DSt) (o1 : Option V), dueRun lo hi (w.drop i) i st = dueRun lo hi w 0 ([], []) ∧ (st.1.length ≤ i ∧ st.2.length ≤ i ∧ ∀ q ∈ st.1 ++ st.2, q < i) ∧ H' r1 = some (.list (vN st.1)) ∧ H' r2 = some (.list (vN st.2)) ∧ vars = [some (.ref l), some (.int lo), some (.int hi), some (.ref r1), some (.ref r2), o1, none, none, none], ?_, ?_, ?_, ?_⟩
  · exact ⟨x2.trans e3, ([], []), none, rfl, ⟨Nat.le_refl _, Nat.le_refl _, fun _ h => nomatch h⟩, e3 _ _ S1, e3 _ _ S2, rfl⟩
  · exact fun _ _ _ _ => trivial
  · rintro i vars H' v H6 hi' ⟨xE, st, o1, hrun, hst, T1, T2, rfl⟩ ⟨rfl, rfl⟩
    rw [hrg] at hi'
    obtain ⟨n, hn⟩ : ∃ n, w[i]? = some n := ⟨_, List.getElem?_eq_getElem hi'⟩
    have hdr : w.drop i = n :: w.drop (i + 1) := by
      rw [List.drop_eq_getElem_cons hi']
      rw [List.getElem?_eq_getElem hi'] at hn
      rw [Option.some.inj hn]
    rw [hdr, dueRun] at hrun
    have hst' := dueStep_ok (lo := lo) (hi := hi) (p := i) (n := n) hst
    obtain ⟨s1, s2⟩ := st
    obtain ⟨q1, q2, q3⟩ := hst
    dsimp only at q1 q2 T1 T2
    rw [show (0 : Int) + (i : Int) * 1 = (i : Int) by omega]
    have L := xE _ _ hl
    repeat walk_at "M"
    refine item_nat L hn (by omega) ?_
    repeat walk_at "M"
    refine ⟨fun hc => ?_, fun hc => ?_⟩
    · have hnh : n = hi := by have : (n : Int) = hi := by simpa using hc
                              omega
      have es : dueStep lo hi (s1, s2) i n = (s1, s2 ++ [i]) := by unfold dueStep; rw [if_pos hnh]
      rw [es] at hrun hst'
      repeat walk_at "M"
      refine ⟨mty_list T2, ?_⟩
      repeat walk_at "M"
      refine append_nat T2 (by omega) ⟨rfl, ?_⟩
      repeat walk_at "M"
      exact ⟨xE.put _ nr2, _, _, hrun, hst', by rw [put_ne _ _ h12]; exact T1, put_self _ _ _, rfl⟩
    · have hnh : ¬ n = hi := by rintro rfl; simp at hc
      repeat walk_at "M"
      refine item_nat L hn (by omega) ?_
      repeat walk_at "M"
      refine ⟨fun hc => ?_, fun hc => ?_⟩
      · have hnl : n = lo := by have : (n : Int) = lo := by simpa using hc
                                omega
        repeat walk_at "M"
        refine ⟨by decide +kernel, fun t H7 n7 e7 f7 => ?_⟩
        have T1' := e7 _ _ T1
        have T2' := e7 _ _ T2
        have xE7 := xE.trans e7
        refine eq_nats T2' (ms := []) f7 ?_
        repeat walk_at "M"
        refine ⟨fun hc => ?_, fun hc => ?_⟩
        · have hs2 : s2 = [] := by simpa using hc
          have es : dueStep lo hi (s1, s2) i n = (s1 ++ [i], s2) := by unfold dueStep; rw [if_neg hnh, if_pos hnl, if_pos hs2]
          rw [es] at hrun hst'
          repeat walk_at "M"
          refine ⟨mty_list T1', ?_⟩
          repeat walk_at "M"
          refine append_nat T1' (by omega) ⟨rfl, ?_⟩
          repeat walk_at "M"
          exact ⟨xE7.put _ nr1, _, _, hrun, hst', put_self _ _ _, by rw [put_ne _ _ (Ne.symm h12)]; exact T2', rfl⟩
        · have hs2 : s2 ≠ [] := by simpa using hc
          have es : dueStep lo hi (s1, s2) i n = (s1, s2.dropLast) := by unfold dueStep; rw [if_neg hnh, if_pos hnl, if_neg hs2]
          rw [es] at hrun hst'
          have hsl : s2 = s2.dropLast ++ [s2.getLast hs2] := (List.dropLast_concat_getLast hs2).symm
          rw [hsl] at T2'
          refine WSs.exprAny ?_
          repeat walk_at "M"
          refine ⟨mty_list T2', ?_⟩
          repeat walk_at "M"
          refine pop_nat T2' (by rw [List.length_dropLast]; omega) ?_
          repeat walk_at "M"
          exact ⟨xE7.put _ nr2, _, _, hrun, hst', by rw [put_ne _ _ h12]; exact T1', put_self _ _ _, rfl⟩
      · have hnl : ¬ n = lo := by rintro rfl; simp at hc
        have es : dueStep lo hi (s1, s2) i n = (s1, s2) := by unfold dueStep; rw [if_neg hnh, if_neg hnl]
        rw [es] at hrun hst'
        repeat walk_at "M"
        exact ⟨xE, _, _, hrun, hst', T1, T2, rfl⟩
  rintro vars H' ⟨xE, st, o1, hrun, hst, T1, T2, rfl⟩
  rw [hrg] at hrun hst
  rw [List.drop_length, dueRun] at hrun
  obtain ⟨q1, q2, q3⟩ := hst
  have hloose : (st.1 ++ st.2).length ≤ 200 := by rw [List.length_append]; omega
  repeat walk_at "M"
  refine list_addN (.of T1) (.of T2) (by simp; show _ ≤ 1 <<< 24; omega) fun r4 H4 n4 e4 f4 => ?_
  repeat walk_at "M"
  have T2' := e4 _ _ T2
  have f4' : H4 r4 = some (.list (vN (st.1 ++ st.2))) := by rw [f4]; simp [vN]
  refine sl_allN (.of (e4 _ _ (xE _ _ hl))) (by simp; show _ ≤ 1 <<< 24; omega) fun r5 H5 n5 e5 f5 => ?_
  repeat walk_at "M"
  have x5 := xE.trans (e4.trans e5)
  have nr5 : H r5 = none := (xE.trans e4).new n5
  have h45 : r4 ≠ r5 := ne_of f4' n5
  have h25 : r2 ≠ r5 := ne_of T2' n5
  have hcl := e5 _ _ f4'
  have hch := e5 _ _ T2'
  refine WSs.for (WIt.rangeN 0 ((st.1 ++ st.2).length : Nat) 1 ?_)
  repeat walk_at "M"
  refine len_nat hcl (by omega) ?_
  repeat walk_at "M"
  intro r6 H6 n6 e6 f6
  have hrg2 : rgCount 0 ((st.1 ++ st.2).length : Nat) 1 = (st.1 ++ st.2).length := by unfold rgCount; rw [rangeSize_nat]; omega
  refine ⟨r6, rfl, f6, small_one (by omega) (by omega) (by omega) (by omega), by rw [rangeSize_nat]; omega, fun i vars H' => Ext H H' ∧ ∃ (o1 o2 : Option V), H' r4 = some (.list (vN (st.1 ++ st.2))) ∧ H' r2 = some (.list (vN st.2)) ∧ H' r5 = some (.list (vN (dueSet (st.1 ++ st.2) st.2.length lo hi i w))) ∧ vars = [some (.ref l), some (.int lo), some (.int hi), some (.ref r1), some (.ref r2), o1, some (.ref r4), some (.ref r5), o2], ?_, ?_, ?_, ?_⟩
  · exact ⟨x5.trans e6, _, none, e6 _ _ hcl, e6 _ _ hch, e6 _ _ f5, rfl⟩
  · exact fun _ _ _ _ => trivial
  · rintro i vars H' v H7 hi' ⟨xE, o1, o2, U4, U2, U5, rfl⟩ ⟨rfl, rfl⟩
    rw [hrg2] at hi'
    rw [show (0 : Int) + (i : Int) * 1 = (i : Int) by omega]
    have hgi := getD_at hi'
    have hlt : (st.1 ++ st.2).getD i 0 < w.length := q3 _ (List.mem_of_getElem? hgi)
    repeat walk_at "M"
    refine len_nat U2 (by omega) ?_
    repeat walk_at "M"
    have fin : ∀ x : Nat, (if i < st.2.length then lo else hi) = x → put H7 r5 (.list (vN ((dueSet (st.1 ++ st.2) st.2.length lo hi i w).set ((st.1 ++ st.2).getD i 0) x))) r5 = some (.list (vN (dueSet (st.1 ++ st.2) st.2.length lo hi (i + 1) w))) := fun x hx => by rw [put_self, dueSet, hx]
    refine ⟨fun hc => ?_, fun hc => ?_⟩
    · have hlt2 : i < st.2.length := by simpa using hc
      repeat walk_at "M"
      refine item_nat U4 hgi (by omega) ?_
      repeat walk_at "M"
      refine set_nat U5 (by rw [dueSet_len]; exact hlt) (by rw [dueSet_len]; omega) ?_
      repeat walk_at "M"
      exact ⟨xE.put _ nr5, _, _, by rw [put_ne _ _ h45]; exact U4, by rw [put_ne _ _ h25]; exact U2, fin _ (if_pos hlt2), rfl⟩
    · have hlt2 : ¬ i < st.2.length := by simpa using hc
      repeat walk_at "M"
      refine item_nat U4 hgi (by omega) ?_
      repeat walk_at "M"
      refine set_nat U5 (by rw [dueSet_len]; exact hlt) (by rw [dueSet_len]; omega) ?_
      repeat walk_at "M"
      exact ⟨xE.put _ nr5, _, _, by rw [put_ne _ _ h45]; exact U4, by rw [put_ne _ _ h25]; exact U2, fin _ (if_neg hlt2), rfl⟩
  rintro vars H' ⟨xE, o1, o2, U4, U2, U5, rfl⟩
  rw [hrg2] at U5
  repeat walk_at "M"
  refine h _ _ xE ?_
  rw [U5]
  unfold dueP
  rw [← hrun]
end
section
def opsText : Str := match sBody (at2 60) with | [.Return (some (.Call (.Attribute (.Constant (.str x) _ _) _ _) _ _ _)) _] => x | _ => ⟨#[]⟩
def ops : List Str := Builtin.Str.partsBetween opsText (Builtin.Str.occurrences opsText " " 0 opsText.length (opsText.length + 1)) (" " : Str).length
theorem ops_len : ops.length = 29 := by decide +kernel
theorem operators_ok {B : Base} {k a : Nat} (D : Def2 B 60 a .none .none) {H : Hp} {Φ : V → Hp → Prop} (h : Nu H (.list (vS ops)) Φ) : WC B (k + 1) (.ref a) [] H Φ := by
  refine WC.def0 D ?_ (names := []) (vs0 := []) (bs := []) (binding_plain (names := []) (args := []) rfl ?_) (by decide +kernel) (by with_unfolding_all rfl) ?_
  · walk_at "LK"
  · intro vals hv fd hp hd hk
    match vals, hv with
    | [], _ => unfold bindArgs; rw [hp, hd]; rfl
  repeat walk_at "M"
  refine WE.split ?_
  repeat walk_at "M"
  refine ⟨mty_str, ?_⟩
  repeat walk_at "M"
  refine call_split (parts := ops) (by kernel_rfl!) (by kernel_rfl!) (by kernel_rfl!) (by decide +kernel) (by kernel_rfl!) (by rw [ops_len]; decide +kernel) ?_
  intro b H1 n1 e1 f1
  repeat walk_at "M"
  exact h _ _ n1 e1 f1
end
section
theorem slice_clampU {x : Str} {s : Nat} : Txt.slice x none (some (s : Int)) = Txt.slice x none (some ((min s x.length : Nat) : Int)) := by
  unfold Txt.slice
  have e : Builtin.Str.strSliceIndices none (some (s : Int)) 1 x.length = Builtin.Str.strSliceIndices none (some ((min s x.length : Nat) : Int)) 1 x.length := by
    unfold Builtin.Str.strSliceIndices
    dsimp only
    congr 1
    rw [if_pos (by decide : (1 : Int) > 0), if_pos (by decide : (1 : Int) > 0)]
    split <;> split <;> omega
  rw [e]
theorem slice_clampL {x : Str} {s : Nat} : Txt.slice x (some (s : Int)) none = Txt.slice x (some ((min s x.length : Nat) : Int)) none := by
  unfold Txt.slice
  have e : Builtin.Str.strSliceIndices (some (s : Int)) none 1 x.length = Builtin.Str.strSliceIndices (some ((min s x.length : Nat) : Int)) none 1 x.length := by
    unfold Builtin.Str.strSliceIndices
    dsimp only
    congr 1
    rw [if_pos (by decide : (1 : Int) > 0), if_pos (by decide : (1 : Int) > 0)]
    split <;> split <;> omega
  rw [e]
theorem slice_upto (x : Str) (s : Nat) : Txt.slice x none (some (s : Int)) = ⟨(x.cps.toList.take s).toArray⟩ := by
  have hl : x.length = x.cps.toList.length := by simp [Str.length]
  rw [slice_clampU]
  have e : Txt.slice x none (some ((min s x.length : Nat) : Int)) = StrLaws.sliceText x none (some ((min s x.length : Nat) : Int)) := rfl
  rw [e, StrLaws.sliceText_to ⟨by omega, by rw [← hl]; omega⟩]
  congr 2
  rw [List.drop_zero, show (((min s x.length : Nat) : Int) - 0).toNat = min s x.length by omega, hl]
  by_cases h : s ≤ x.cps.toList.length
  · rw [Nat.min_eq_left h]
  · rw [Nat.min_eq_right (by omega), List.take_of_length_le (Nat.le_refl _), List.take_of_length_le (by omega)]
theorem slice_fromN (x : Str) (s : Nat) : Txt.slice x (some (s : Int)) none = ⟨(x.cps.toList.drop s).toArray⟩ := by
  have hl : x.length = x.cps.toList.length := by simp [Str.length]
  rw [slice_clampL, slice_from (Nat.min_le_right _ _)]
  congr 2
  by_cases h : s ≤ x.length
  · rw [Nat.min_eq_left h]
  · rw [Nat.min_eq_right (by omega), List.drop_of_length_le (by omega), List.drop_of_length_le (by omega)]
def oc (i : Nat) : List Nat := (ops.getD i ⟨#[]⟩).cps.toList
def keyL : List Str := match at2 57 with
  | .Assign _ (.Dict ks _ _) _ => ks.map fun k => match k with | some (.Constant (.str x) _ _) => x | _ => ⟨#[]⟩
  | _ => []
theorem oc_len : ((List.range 29).all fun i => decide (1 ≤ (oc i).length ∧ (oc i).length ≤ 3)) = true := by decide +kernel
theorem oc_keys : ((List.range 29).all fun i => keyL.all fun k => !(oc i).isPrefixOf k.cps.toList || k.cps.toList == oc i) = true := by decide +kernel
/-- the table knows the operators -/
structure CutT (f : Str → Option Value) (code : Nat → Nat) : Prop where
  keys : ∀ x, (f x).isSome = true → x ∈ keyL
  op : ∀ i, i < 29 → ∃ t, f ⟨(oc i).toArray⟩ = some (.int ((code i : Nat) : Int) t)
theorem cut_step {f : Str → Option Value} {code : Nat → Nat} (C : CutT f code) {i s : Nat} (hi : i < 29) (hs : (oc i).length ≤ s) (rest : List Nat) : (f ⟨((oc i ++ rest).take s).toArray⟩).isSome = decide ((oc i ++ rest).take s = oc i) := by
  by_cases h : (oc i ++ rest).take s = oc i
  · rw [h, decide_eq_true rfl]
    obtain ⟨t, e⟩ := C.op i hi
    rw [e]; rfl
  · rw [decide_eq_false h]
    cases e : (f ⟨((oc i ++ rest).take s).toArray⟩).isSome with
    | false => rfl
    | true =>
      exfalso
      have hk := C.keys _ e
      have h1 := List.all_eq_true.mp (List.all_eq_true.mp oc_keys i (List.mem_range.mpr hi)) _ hk
      have hp : (oc i).isPrefixOf ((oc i ++ rest).take s) = true := by
        rw [List.isPrefixOf_iff_prefix, List.take_append, List.take_of_length_le hs]
        exact List.prefix_append _ _
      simp only [hp, Bool.not_true, Bool.false_or, beq_iff_eq] at h1
      exact h h1
theorem cut_ok {B : Base} {k a d : Nat} (D : Def2 B 61 a .none .none) {f : Str → Option Value} {code : Nat → Nat} (T : Tab B d f) (C : CutT f code) (md : B.mg "EXACT_TOKEN_TYPES" = some (.ref d)) {H : Hp} {ls : List Nat} (hls : ∀ i ∈ ls, i < 29) (hz : ls.length ≤ 100) {Φ : V → Hp → Prop}
    (h : ∀ H' r, Ext H H' → H' r = some (.list (vN (ls.map code))) → Φ (.ref r) H') : WC B (k + 1) (.ref a) [.str ⟨((ls.map oc).flatten).toArray⟩] H Φ := by
  refine WC.def0 D ?_ (names := ["text", "numbers", "size"]) (vs0 := [none, none, none]) (bs := [("text", .str ⟨((ls.map oc).flatten).toArray⟩)]) (binding_plain (names := ["text"]) rfl ?_) (by decide +kernel) (by with_unfolding_all rfl) ?_
  · walk_at "LK"
  · walk_at "B1"
  have hol : ∀ i ∈ ls, 1 ≤ (oc i).length ∧ (oc i).length ≤ 3 := fun i hi => of_decide_eq_true (List.all_eq_true.mp oc_len i (List.mem_range.mpr (hls i hi)))
  have hfl : ∀ l : List Nat, (∀ i ∈ l, 1 ≤ (oc i).length ∧ (oc i).length ≤ 3) → ((l.map oc).flatten).length ≤ 3 * l.length := by
    intro l
    induction l with
    | nil => intro _; exact Nat.le_refl _
    | cons a r ih =>
      intro hh
      have h1 := ih fun i hi => hh i (List.mem_cons_of_mem _ hi)
      have h2 := (hh a List.mem_cons_self).2
      rw [List.map_cons, List.flatten_cons, List.length_append, List.length_cons]; omega
  repeat walk_at "M"
  refine ⟨by decide +kernel, fun r H1 n1 e1 f1 => ?_⟩
  repeat walk_at "M"
  refine WSs.while (fun m vars H' => Ext H H' ∧ ∃ (j : Nat) (o : Option V), j ≤ ls.length ∧ m = ls.length - j ∧ H' r = some (.list (vN ((ls.take j).map code))) ∧ vars = [some (.str ⟨(((ls.drop j).map oc).flatten).toArray⟩), some (.ref r), o]) ls.length ?_ ?_
  · exact ⟨e1, 0, none, Nat.zero_le _, rfl, f1, rfl⟩
  rintro m vars H' ⟨xE, j, o, hj, rfl, S, rfl⟩
  repeat walk_at "M"
  refine ⟨fun hc => ?_, fun hc => ?_⟩
  · have hjl : j < ls.length := by
      rcases Nat.lt_or_eq_of_le hj with q | q
      · exact q
      · exfalso
        subst q
        rw [List.drop_length] at hc
        have : (⟨(([] : List Nat).map oc).flatten.toArray⟩ : Str) = Str.ofString "" := by decide +kernel
        simp only [decide_eq_true_eq] at hc
        exact hc this
    have hdr : ls.drop j = ls[j] :: ls.drop (j + 1) := List.drop_eq_getElem_cons hjl
    have hm29 := hls _ (List.getElem_mem hjl)
    obtain ⟨hn1, hn3⟩ := hol _ (List.getElem_mem hjl)
    have hrl : (((ls.drop (j + 1)).map oc).flatten).length ≤ 300 := by
      have := hfl (ls.drop (j + 1)) fun i hi => hol i (List.mem_of_mem_drop hi)
      rw [List.length_drop] at this; omega
    have htk : (ls.take (j + 1)).map code = (ls.take j).map code ++ [code ls[j]] := by
      rw [List.take_add_one, List.getElem?_eq_getElem hjl, List.map_append]; rfl
    rw [hdr, List.map_cons, List.flatten_cons]
    generalize hi : ls[j] = i at *
    generalize hrest : ((ls.drop (j + 1)).map oc).flatten = rest at *
    have hxl : (⟨(oc i ++ rest).toArray⟩ : Str).length ≤ sizeLine := by
      simp only [Str.length, List.size_toArray, List.length_append]; show _ ≤ 1 <<< 24; omega
    repeat walk_at "M"
    refine WSs.while (fun m vars H2 => H2 = H' ∧ ∃ s : Nat, m = s ∧ (oc i).length ≤ s ∧ vars = [some (.str ⟨(oc i ++ rest).toArray⟩), some (.ref r), some (.int s)]) 3 ?_ ?_
    · exact ⟨rfl, 3, rfl, hn3, rfl⟩
    rintro m2 vars2 H2 ⟨rfl, s, rfl, hs, rfl⟩
    have hst := cut_step C hm29 hs rest
    repeat walk_at "M"
    refine sl_str (lo := none) (hi := some (m2 : Int)) hxl ?_
    rw [slice_upto]
    repeat walk_at "M"
    refine cmp_notInT T ?_
    repeat walk_at "M"
    refine ⟨fun hc => ?_, fun hc => ?_⟩
    · have hne : (oc i ++ rest).take m2 ≠ oc i := by
        have hc' : (f ⟨((oc i ++ rest).take m2).toArray⟩).isSome = false := by simpa using hc
        rw [hst] at hc'
        exact of_decide_eq_false hc'
      have hlt : (oc i).length < m2 := by
        rcases Nat.lt_or_eq_of_le hs with q | q
        · exact q
        · exfalso; apply hne; rw [← q, List.take_append, List.take_of_length_le (Nat.le_refl _)]; simp
      repeat walk_at "M"
      exact ⟨m2 - 1, by omega, rfl, m2 - 1, rfl, by omega, by rw [show ((m2 - 1 : Nat) : Int) = (m2 : Int) - 1 by omega]⟩
    · have heq : (oc i ++ rest).take m2 = oc i := by
        have hc' : (f ⟨((oc i ++ rest).take m2).toArray⟩).isSome = true := by simpa using hc
        rw [hst] at hc'
        exact of_decide_eq_true hc'
      have hdrop : (oc i ++ rest).drop m2 = rest := by
        have e2 := List.take_append_drop m2 (oc i ++ rest)
        rw [heq] at e2
        exact List.append_cancel_left e2
      obtain ⟨t, hf⟩ := C.op i hm29
      repeat walk_at "M"
      refine ⟨mty_list S, ?_⟩
      repeat walk_at "M"
      refine sl_str (lo := none) (hi := some (m2 : Int)) hxl ?_
      rw [slice_upto]
      refine item_tab T (by show f ⟨((oc i ++ rest).take m2).toArray⟩ = _; rw [heq]; exact hf) (.int _ t) ?_
      repeat walk_at "M"
      refine append_nat S (by rw [List.length_map, List.length_take]; omega) ⟨rfl, ?_⟩
      repeat walk_at "M"
      refine sl_str (lo := some (m2 : Int)) (hi := none) hxl ?_
      rw [slice_fromN]
      repeat walk_at "M"
      exact ⟨ls.length - (j + 1), by omega, xE.put _ n1, j + 1, _, hjl, rfl, by rw [put_self, htk], by rw [hrest]; show [some (V.str ⟨((oc i ++ rest).drop m2).toArray⟩), _, _] = _; rw [hdrop]⟩
  · have hjl : j = ls.length := by
      rcases Nat.lt_or_eq_of_le hj with q | q
      · exfalso
        have hdr : ls.drop j = ls[j] :: ls.drop (j + 1) := List.drop_eq_getElem_cons q
        have hn := (hol _ (List.getElem_mem q)).1
        rw [hdr, List.map_cons, List.flatten_cons] at hc
        have hc' : (⟨(oc ls[j] ++ ((ls.drop (j + 1)).map oc).flatten).toArray⟩ : Str) = Str.ofString "" := by simpa using hc
        have h2 := congrArg Str.length hc'
        have h3 : (Str.ofString "").length = 0 := by decide +kernel
        rw [h3] at h2
        simp only [Str.length, List.size_toArray, List.length_append] at h2
        omega
      · exact q
    subst hjl
    rw [List.take_length] at S
    repeat walk_at "M"
    exact h _ _ xE S
end
section
/-! rows of brackets with a hidden piece -/
def hids (h : Nat) : Str := match h with | 0 => ⟨#[92, 41]⟩ | 1 => ⟨#[34, 40, 34]⟩ | 2 => ⟨#[92, 34]⟩ | _ => ⟨#[92, 92]⟩
def sOp : Str := ⟨#[40]⟩
def sCl : Str := ⟨#[41]⟩
def cellStr (hid : Str) (p d : Nat) : Str := match d with | 0 => sOp | 1 => sCl | _ => if p = 3 then hid else ⟨#[]⟩
def cellsGo (hid : Str) : List Nat → Nat → List Str
  | [], _ => []
  | d :: r, p => cellStr hid p d :: cellsGo hid r (p + 1)
def cellsOf (hid : Str) (ds : List Nat) : List Str := cellsGo hid ds 0
def taken : List Nat → Nat → Bool
  | [], _ => true
  | d :: r, o => match d with | 0 => taken r (o + 1) | 1 => (match o with | 0 => false | o + 1 => taken r o) | _ => taken r o
def textOf (cells : List Str) (a : Nat) : Str := Txt.mul sOp a ++ Txt.join "" cells ++ Txt.mul sCl ((a : Int) + ((cells.count sOp : Nat) : Int) - ((cells.count sCl : Nat) : Int))
def okT (hid : Str) (ds : List Nat) (a : Nat) : Bool :=
  let x := textOf (cellsOf hid ds) a
  chkS x == taken ds a && decide (x.length ≤ 500) && !left false x.cps.toList && !left false (stripS x).cps.toList && decide ((stripS x).length ≤ 500)
def words : Nat → List (List Nat)
  | 0 => [[]]
  | n + 1 => (words n).flatMap fun w => [0 :: w, 1 :: w, 2 :: w]
def wordsTo : List (List Nat) := (List.range 6).flatMap words
def testT (h a : Nat) : Bool := wordsTo.all fun ds => okT (hids h) ds a
theorem mem_words : ∀ (ds : List Nat), (∀ d ∈ ds, d < 3) → ds ∈ words ds.length
  | [], _ => List.mem_singleton.mpr rfl
  | d :: r, h => by
    have h1 := mem_words r fun x hx => h x (List.mem_cons_of_mem _ hx)
    have h2 := h d List.mem_cons_self
    rw [List.length_cons, words, List.mem_flatMap]
    refine ⟨r, h1, ?_⟩
    match d, h2 with
    | 0, _ => exact List.mem_cons_self
    | 1, _ => exact List.mem_cons_of_mem _ List.mem_cons_self
    | 2, _ => exact List.mem_cons_of_mem _ (List.mem_cons_of_mem _ List.mem_cons_self)
theorem test00 : testT 0 0 = true := by decide +kernel
theorem test01 : testT 0 1 = true := by decide +kernel
theorem test02 : testT 0 2 = true := by decide +kernel
theorem test03 : testT 0 3 = true := by decide +kernel
theorem test04 : testT 0 4 = true := by decide +kernel
theorem test10 : testT 1 0 = true := by decide +kernel
theorem test11 : testT 1 1 = true := by decide +kernel
theorem test12 : testT 1 2 = true := by decide +kernel
theorem test13 : testT 1 3 = true := by decide +kernel
theorem test14 : testT 1 4 = true := by decide +kernel
theorem test20 : testT 2 0 = true := by decide +kernel
theorem test21 : testT 2 1 = true := by decide +kernel
theorem test22 : testT 2 2 = true := by decide +kernel
theorem test23 : testT 2 3 = true := by decide +kernel
theorem test24 : testT 2 4 = true := by decide +kernel
theorem test30 : testT 3 0 = true := by decide +kernel
theorem test31 : testT 3 1 = true := by decide +kernel
theorem test32 : testT 3 2 = true := by decide +kernel
theorem test33 : testT 3 3 = true := by decide +kernel
theorem test34 : testT 3 4 = true := by decide +kernel
theorem test_all {h a : Nat} (hh : h < 4) (ha : a < 5) : testT h a = true := by
  match h, hh with
  | 0, _ => match a, ha with
    | 0, _ => exact test00
    | 1, _ => exact test01
    | 2, _ => exact test02
    | 3, _ => exact test03
    | 4, _ => exact test04
  | 1, _ => match a, ha with
    | 0, _ => exact test10
    | 1, _ => exact test11
    | 2, _ => exact test12
    | 3, _ => exact test13
    | 4, _ => exact test14
  | 2, _ => match a, ha with
    | 0, _ => exact test20
    | 1, _ => exact test21
    | 2, _ => exact test22
    | 3, _ => exact test23
    | 4, _ => exact test24
  | 3, _ => match a, ha with
    | 0, _ => exact test30
    | 1, _ => exact test31
    | 2, _ => exact test32
    | 3, _ => exact test33
    | 4, _ => exact test34
theorem okT_of {h a : Nat} (hh : h < 4) (ha : a < 5) {ds : List Nat} (hd : ∀ d ∈ ds, d < 3) (hl : ds.length ≤ 5) : okT (hids h) ds a = true := by
  refine List.all_eq_true.mp (test_all hh ha) ds ?_
  exact List.mem_flatMap.mpr ⟨ds.length, List.mem_range.mpr (by omega), mem_words ds hd⟩
end
section
theorem eOp : Str.ofString "(" = sOp := by decide +kernel
theorem eCl : Str.ofString ")" = sCl := by decide +kernel
theorem eNo : Str.ofString "" = (⟨#[]⟩ : Str) := by decide +kernel
def kindOf (one other n : Nat) : Nat := if n = one then 0 else if n = other then 1 else 2
theorem cellsGo_snoc (hid : Str) : ∀ (l : List Nat) (p d : Nat), cellsGo hid (l ++ [d]) p = cellsGo hid l p ++ [cellStr hid (p + l.length) d]
  | [], p, d => rfl
  | a :: r, p, d => by
    rw [List.cons_append, cellsGo, cellsGo_snoc hid r, cellsGo, List.length_cons, List.cons_append]
    rw [show p + 1 + r.length = p + (r.length + 1) by omega]
theorem cellsGo_len (hid : Str) : ∀ (l : List Nat) (p : Nat), (cellsGo hid l p).length = l.length
  | [], _ => rfl
  | a :: r, p => by rw [cellsGo, List.length_cons, cellsGo_len hid r, List.length_cons]
structure Eof (B : Base) (ae : Addr) : Prop where
  D : Def2 B 58 ae .none .none
  n : B.mg "ISEOF" = some (.ref ae)
  e : ∃ t, B.mg "ENDMARKER" = some (.int 0 t)
theorem written_ok {B : Base} {k a ae : Nat} (D : Def2 B 62 a .none .none) (b : Blt2 B) (E : Eof B ae) {H : Hp} {l : Addr} {w : List Nat} {one other : Nat} {hid : Str} {Φ : V → Hp → Prop} (hl : H l = some (.list (vN w))) (hw : w.length ≤ 100)
    (h : ∀ H' r, Ext H H' → H r = none → H' r = some (.list (vS (cellsOf hid (w.map (kindOf one other))))) → Φ (.ref r) H') : WC B (k + 2) (.ref a) [.ref l, .int one, .int other, .str hid] H Φ := by
  obtain ⟨g1, g2, g3, g4⟩ := b
  have en := E.n
  obtain ⟨t0, e0⟩ := E.e
  refine WC.def0 D ?_ (names := ["word", "one", "other", "hidden", "cells", "place"]) (vs0 := [none, none, none, none, none, none]) (bs := [("word", .ref l), ("one", .int one), ("other", .int other), ("hidden", .str hid)]) (binding_plain (names := ["word", "one", "other", "hidden"]) rfl ?_) (by decide +kernel) (by with_unfolding_all rfl) ?_
  · walk_at "LK"
  · intro vals hv fd hp hd hk
    match vals, hv with
    | [v1, v2, v3, v4], _ => unfold bindArgs; rw [hp, hd]; rfl
  repeat walk_at "M"
  refine ⟨by decide +kernel, fun r H1 n1 e1 f1 => ?_⟩
  repeat walk_at "M"
  refine WSs.for (WIt.rangeN 0 w.length 1 ?_)
  repeat walk_at "M"
  refine len_nat (e1 _ _ hl) (by omega) ?_
  repeat walk_at "M"
  intro r3 H3 n3 e3 f3
  have hrg : rgCount 0 w.length 1 = w.length := by unfold rgCount; rw [rangeSize_nat]; omega
  refine ⟨r3, rfl, f3, small_one (by omega) (by omega) (by omega) (by omega), by rw [rangeSize_nat]; omega, fun i vars H' => Ext H H' ∧ ∃ (o1 : Option V), H' r = some (.list (vS (cellsOf hid ((w.take i).map (kindOf one other))))) ∧ vars = [some (.ref l), some (.int one), some (.int other), some (.str hid), some (.ref r), o1], ?_, ?_, ?_, ?_⟩
  · exact ⟨e1.trans e3, none, e3 _ _ f1, rfl⟩
  · exact fun _ _ _ _ => trivial
  · rintro i vars H' v H6 hi ⟨xE, o1, S, rfl⟩ ⟨rfl, rfl⟩
    rw [hrg] at hi
    rw [show (0 : Int) + (i : Int) * 1 = (i : Int) by omega]
    obtain ⟨n, hn⟩ : ∃ n, w[i]? = some n := ⟨_, List.getElem?_eq_getElem hi⟩
    have L := xE _ _ hl
    have hlen : (cellsOf hid ((w.take i).map (kindOf one other))).length = i := by unfold cellsOf; rw [cellsGo_len, List.length_map, List.length_take]; omega
    have hstep : ∀ y : Str, cellStr hid i (kindOf one other n) = y → vS (cellsOf hid ((w.take i).map (kindOf one other))) ++ [.str y] = vS (cellsOf hid ((w.take (i + 1)).map (kindOf one other))) := fun y hy => by
      rw [List.take_add_one, hn, List.map_append]
      show _ = vS (cellsGo hid (_ ++ [kindOf one other n]) 0)
      rw [cellsGo_snoc, List.length_map, List.length_take, show 0 + min i w.length = i by omega, hy]
      simp only [vS, List.map_append, List.map_cons, List.map_nil]; rfl
    have hz : (vS (cellsOf hid ((w.take i).map (kindOf one other)))).length ≤ sizeLine := by rw [List.length_map, hlen]; show _ ≤ 1 <<< 24; omega
    repeat walk_at "M"
    refine WT.plain ?_
    repeat walk_at "M"
    refine item_nat L hn (by omega) ?_
    repeat walk_at "M"
    refine ⟨E.D.callee _, fun _ i => ?_⟩
    cases i
    refine eof_ok E.D e0 ?_
    repeat walk_at "M"
    refine ⟨fun hc => ?_, fun hc => ?_⟩
    · have h1 : n = one := by have : (n : Int) - one = 0 := by simpa using hc
                              omega
      have hk : kindOf one other n = 0 := by unfold kindOf; rw [if_pos h1]
      repeat walk_at "M"
      refine ⟨mty_list S, ?_⟩
      repeat walk_at "M"
      refine call_append S hz ⟨rfl, ?_⟩
      repeat walk_at "M"
      exact ⟨xE.put _ n1, _, by rw [put_self, eOp, hstep _ (by rw [hk]; rfl)], rfl⟩
    · have h1 : ¬ n = one := by rintro rfl; simp at hc
      repeat walk_at "M"
      refine WT.plain ?_
      repeat walk_at "M"
      refine item_nat L hn (by omega) ?_
      repeat walk_at "M"
      refine ⟨E.D.callee _, fun _ i => ?_⟩
      cases i
      refine eof_ok E.D e0 ?_
      repeat walk_at "M"
      refine ⟨fun hc => ?_, fun hc => ?_⟩
      · have h2 : n = other := by have : (n : Int) - other = 0 := by simpa using hc
                                  omega
        have hk : kindOf one other n = 1 := by unfold kindOf; rw [if_neg h1, if_pos h2]
        repeat walk_at "M"
        refine ⟨mty_list S, ?_⟩
        repeat walk_at "M"
        refine call_append S hz ⟨rfl, ?_⟩
        repeat walk_at "M"
        exact ⟨xE.put _ n1, _, by rw [put_self, eCl, hstep _ (by rw [hk]; rfl)], rfl⟩
      · have h2 : ¬ n = other := by rintro rfl; simp at hc
        have hk : kindOf one other n = 2 := by unfold kindOf; rw [if_neg h1, if_neg h2]
        repeat walk_at "M"
        refine ⟨mty_list S, ?_⟩
        repeat walk_at "M"
        refine ⟨fun hc => ?_, fun hc => ?_⟩
        · have h3 : i = 3 := by have : (i : Int) = 3 := by simpa using hc
                                omega
          repeat walk_at "M"
          refine call_append S hz ⟨rfl, ?_⟩
          repeat walk_at "M"
          exact ⟨xE.put _ n1, _, by rw [put_self, hstep _ (by rw [hk]; exact if_pos h3)], rfl⟩
        · have h3 : ¬ i = 3 := by rintro rfl; simp at hc
          repeat walk_at "M"
          refine call_append S hz ⟨rfl, ?_⟩
          repeat walk_at "M"
          exact ⟨xE.put _ n1, _, by rw [put_self, eNo, hstep _ (by rw [hk]; exact if_neg h3)], rfl⟩
  rintro vars H' ⟨xE, o1, S, rfl⟩
  rw [hrg, List.take_length] at S
  repeat walk_at "M"
  exact h _ _ xE n1 S
end
section
theorem mulOk_all : ∀ n : Fin 16, MulOk sOp ((n.val : Int) - 5) ∧ MulOk sCl ((n.val : Int) - 5) := by unfold MulOk; decide +kernel
theorem mulOk_of {i : Int} (h1 : -5 ≤ i) (h2 : i ≤ 10) : MulOk sOp i ∧ MulOk sCl i := by
  have := mulOk_all ⟨(i + 5).toNat, by omega⟩
  rw [show (((i + 5).toNat : Nat) : Int) - 5 = i by omega] at this
  exact this
theorem cellStr_len (h p d : Nat) : (cellStr (hids h) p d).length ≤ 3 := by
  have hh : (hids h).length ≤ 3 := by unfold hids; split <;> decide +kernel
  unfold cellStr
  split
  · decide +kernel
  · decide +kernel
  · split
    · exact hh
    · decide +kernel
theorem cells_mem {h : Nat} : ∀ {ds : List Nat} {p : Nat} {y : Str}, y ∈ cellsGo (hids h) ds p → y.length ≤ 3
  | [], _, _, hy => nomatch hy
  | d :: r, p, y, hy => by
    rw [cellsGo] at hy
    rcases List.mem_cons.mp hy with rfl | hy
    · exact cellStr_len _ _ _
    · exact cells_mem hy
theorem cells_join {h : Nat} {ds : List Nat} (hl : ds.length ≤ 5) : JoinOk "" (cellsOf (hids h) ds) = true := by
  refine joinOk_of_weight ?_ (by decide +kernel)
  have h1 := sum_le_mul (l := (cellsOf (hids h) ds).map (·.length)) (m := 3) fun n hn => by
    obtain ⟨y, hy, rfl⟩ := List.mem_map.mp hn
    exact cells_mem hy
  have h2 : (cellsOf (hids h) ds).length = ds.length := cellsGo_len _ _ _
  rw [List.length_map, h2] at h1
  rw [h2]; omega
theorem taken_ok {B : Base} {k a ac a0 a1 : Nat} (D : Def2 B 63 a .none .none) (Dc : Def2 B 3 ac .none .none) (mc : B.mg "_check_parenthesis" = some (.ref ac)) (m : Mail B a0 a1) {H : Hp} {l : Addr} {h n : Nat} {ds : List Nat} {Φ : V → Hp → Prop}
    (hl : H l = some (.list (vS (cellsOf (hids h) ds)))) (hh : h < 4) (hn : n < 5) (hd : ∀ d ∈ ds, d < 3) (hz : ds.length ≤ 5) (q : ∀ H', Ext H H' → Φ (.bool (taken ds n)) H') : WC B (k + 5) (.ref a) [.ref l, .int n] H Φ := by
  have ok := okT_of hh hn hd hz
  unfold okT at ok
  simp only [Bool.and_eq_true, beq_iff_eq, decide_eq_true_eq, Bool.not_eq_true'] at ok
  obtain ⟨⟨⟨⟨o1, o2⟩, o3⟩, o4⟩, o5⟩ := ok
  have P : Plain (textOf (cellsOf (hids h) ds) n) := ⟨o2, o3, o4, o5⟩
  have hcl : (cellsOf (hids h) ds).length = ds.length := cellsGo_len _ _ _
  have c1 : (cellsOf (hids h) ds).count sOp ≤ 5 := Nat.le_trans List.count_le_length (by omega)
  have c2 : (cellsOf (hids h) ds).count sCl ≤ 5 := Nat.le_trans List.count_le_length (by omega)
  have hlen : (Txt.mul sOp n).length + (Txt.join "" (cellsOf (hids h) ds)).length + (Txt.mul sCl ((n : Int) + (((cellsOf (hids h) ds).count sOp : Nat) : Int) - (((cellsOf (hids h) ds).count sCl : Nat) : Int))).length ≤ 500 := by
    unfold textOf at o2
    rw [Str.length_append, Str.length_append] at o2
    exact o2
  refine WC.def0 D ?_ (names := ["cells", "ahead", "behind"]) (vs0 := [none, none, none]) (bs := [("cells", .ref l), ("ahead", .int n)]) (binding_plain (names := ["cells", "ahead"]) rfl ?_) (by decide +kernel) (by with_unfolding_all rfl) ?_
  · walk_at "LK"
  · intro vals hv fd hp hd hk
    match vals, hv with
    | [v1, v2], _ => unfold bindArgs; rw [hp, hd]; rfl
  repeat walk_at "M"
  refine WE.count ?_
  repeat walk_at "M"
  refine ⟨mty_list hl, ?_⟩
  repeat walk_at "M"
  refine call_countS (.of hl) ?_
  repeat walk_at "M"
  refine WE.count ?_
  repeat walk_at "M"
  refine ⟨mty_list hl, ?_⟩
  repeat walk_at "M"
  refine call_countS (.of hl) ?_
  rw [eOp, eCl]
  repeat walk_at "M"
  refine bin_muls (mulOk_of (by omega) (by omega)).1 ?_
  repeat walk_at "M"
  refine ⟨mty_str, ?_⟩
  repeat walk_at "M"
  refine call_join (.of hl) (cells_join hz) ?_
  refine bin_adds (by show _ ≤ 1 <<< 24; omega) ?_
  repeat walk_at "M"
  refine bin_muls (mulOk_of (by omega) (by omega)).2 ?_
  refine bin_adds (by rw [Str.length_append]; show _ ≤ 1 <<< 24; omega) ?_
  repeat walk_at "M"
  refine ⟨Dc.callee _, fun _ i => ?_⟩
  cases i
  refine check_ok Dc m P fun H' x => ?_
  repeat walk_at "M"
  have := q _ x
  rw [← o1] at this
  exact this
end
section
theorem putCells_other : ∀ (cs : List Addr) (H : Hp) (a : Addr), a ∉ cs → putCells H cs a = H a
  | [], _, _, _ => rfl
  | c :: cs, H, a, h => by
    show putCells (put H c (.cell none)) cs a = H a
    rw [putCells_other cs _ a (fun m => h (List.mem_cons_of_mem _ m)), put_ne _ _ (by rintro rfl; exact h List.mem_cons_self)]
theorem putCells_at : ∀ (cs : List Addr) (H : Hp), cs.Nodup → ∀ c ∈ cs, putCells H cs c = some (.cell none)
  | c :: cs, H, nd, a, h => by
    rw [List.nodup_cons] at nd
    show putCells (put H c (.cell none)) cs a = _
    rcases List.mem_cons.mp h with rfl | h
    · rw [putCells_other cs _ _ nd.1, put_self]
    · exact putCells_at cs _ nd.2 a h
theorem putCells_ext (cs : List Addr) (H : Hp) (h : ∀ c ∈ cs, H c = none) : Ext H (putCells H cs) := fun a o e => by
  rw [putCells_other cs H a (fun m => by rw [h a m] at e; cases e)]; exact e
theorem WC.defCX {B : Base} {k : Nat} {H : Hp} {a : Addr} {st : Stmt} {dv kdv : Value} {names xs : List Str} {vs0 : List (Option V)} {args : List V} {bs : List (Str × V)} {Φ : V → Hp → Prop} {s1 : Stmt} {body : List Stmt} (fc : Option (Addr × Str)) (hfc : ∀ c q, fc = some (c, q) → DefC B a c q)
    (D : DefAt B a (sArgs st) (sBody st) (sScope st) dv kdv) (L : Looks (sScope st) names vs0) (hb : Binding B (sArgs st) dv kdv [] args bs) (hc : celNames (sScope st).names = xs) (hbd : sBody st = s1 :: body)
    (h : ∀ (cs : List Addr) H', cs.length = xs.length → cs.Nodup → (∀ c ∈ cs, H c = none) → Ext H H' → (∀ c ∈ cs, H' c = some (.cell none)) →
      WBs B k ⟨sScope st, names, xs.zip cs, fc⟩ bs vs0 H' fun vars H1 => WSs B k ⟨sScope st, names, xs.zip cs, fc⟩ (s1 :: body) vars H1 (retV Φ)) : WC B (k + 1) (.ref a) args H Φ := by
  refine WC.defX fc hfc D L hb fun cs h1 h2 h3 h6 => ?_
  rw [hc, List.append_nil, hbd]
  exact h cs _ (by rw [h1, hc]) h2 h3 (putCells_ext cs H h3) (putCells_at cs H h2)
/-! what is moved -/
def sizeP (ds : List Nat) (a : Nat) : Nat := bisK (fun j => !taken (ds.take j) a) (ds.length + 1)
def needP (ds : List Nat) : Nat := bisK (fun a => taken ds a) ds.length
def movGo (ds : List Nat) (one : Nat) : Nat → Nat → List Nat → List Nat
  | 0, _, m => m
  | c + 1, a, m => movGo ds one c (a + 1) (m.set (sizeP ds a - 1) one)
def looseP (ds : List Nat) : Nat := needP ds + ds.count 0 - ds.count 1
def movP (ds : List Nat) (one : Nat) (w : List Nat) : List Nat := movGo ds one (needP ds - looseP ds) (looseP ds) w
def okMov (ds : List Nat) : Bool := decide (ds.count 1 ≤ needP ds + ds.count 0) && decide (needP ds ≤ 5) && (List.range 5).all fun a => !(decide (looseP ds ≤ a) && decide (a < needP ds)) || (decide (1 ≤ sizeP ds a) && decide (sizeP ds a ≤ ds.length))
theorem okMov_all : ((words 5).all okMov) = true := by decide +kernel
theorem okMov_of {ds : List Nat} (hl : ds.length = 5) (hd : ∀ d ∈ ds, d < 3) : ds.count 1 ≤ needP ds + ds.count 0 ∧ needP ds ≤ 5 ∧ ∀ a, looseP ds ≤ a → a < needP ds → 1 ≤ sizeP ds a ∧ sizeP ds a ≤ ds.length := by
  have h := List.all_eq_true.mp okMov_all ds (by rw [← hl]; exact mem_words ds hd)
  unfold okMov at h
  simp only [Bool.and_eq_true, decide_eq_true_eq, List.all_eq_true, List.mem_range, Bool.or_eq_true, Bool.not_eq_true', Bool.and_eq_false_iff, decide_eq_false_iff_not] at h
  obtain ⟨⟨h1, h2⟩, h3⟩ := h
  refine ⟨h1, h2, fun a x y => ?_⟩
  rcases h3 a (by omega) with (q | q) | q
  · exact absurd x q
  · exact absurd y q
  · exact q
theorem cellsGo_take (hid : Str) : ∀ (ds : List Nat) (p i : Nat), (cellsGo hid ds p).take i = cellsGo hid (ds.take i) p
  | [], p, i => by simp [cellsGo]
  | d :: r, p, 0 => rfl
  | d :: r, p, i + 1 => by rw [cellsGo, List.take_succ_cons, List.take_succ_cons, cellsGo, cellsGo_take hid r]
theorem cells_countO {h : Nat} (hh : h < 4) : ∀ (ds : List Nat) (p : Nat), (cellsGo (hids h) ds p).count sOp = ds.count 0 ∧ (cellsGo (hids h) ds p).count sCl = ds.count 1
  | [], _ => ⟨rfl, rfl⟩
  | d :: r, p => by
    obtain ⟨h1, h2⟩ := cells_countO hh r (p + 1)
    have e1 : (sOp == sCl) = false := by decide +kernel
    have e2 : (sCl == sOp) = false := by decide +kernel
    rw [cellsGo, List.count_cons, List.count_cons, List.count_cons, List.count_cons, h1, h2]
    match d with
    | 0 => simp [cellStr, e1]
    | 1 => simp [cellStr, e2]
    | d + 2 =>
      have g1 : ∀ y ∈ [hids 0, hids 1, hids 2, hids 3, (⟨#[]⟩ : Str)], (y == sOp) = false ∧ (y == sCl) = false := by decide +kernel
      have g2 : cellStr (hids h) p (d + 2) ∈ [hids 0, hids 1, hids 2, hids 3, (⟨#[]⟩ : Str)] := by
        show (if p = 3 then hids h else (⟨#[]⟩ : Str)) ∈ _
        split
        · match h, hh with
          | 0, _ => simp
          | 1, _ => simp
          | 2, _ => simp
          | 3, _ => simp
        · simp
      obtain ⟨g3, g4⟩ := g1 _ g2
      simp [g3, g4]
/-! the lambdas' places -/
def kwPos : Stmt → Pos | .Assign _ (.Call _ _ [⟨_, .Lambda _ _ _ p, _⟩] _) _ => p | _ => ⟨0, 0, 0, 0⟩
def inFor : Stmt → Stmt | .For _ _ (s :: _) _ _ => s | s => s
def lamPos : List Pos := [kwPos ((sBody (at2 64)).getD 2 (.Pass ⟨0, 0, 0, 0⟩)), kwPos (inFor ((sBody (at2 64)).getD 5 (.Pass ⟨0, 0, 0, 0⟩)))]
end
section
structure Mov (B : Base) (am c T : Addr) (q : Str) (aw tk ac a0 a1 ae ab : Addr) : Prop where
  D : Def2 B 64 am .none .none
  n : B.mg "_law_moved" = some (.ref am)
  fc : DefC B am c q
  LB : LamB B c T
  Dw : Def2 B 62 aw .none .none
  nw : B.mg "_law_written" = some (.ref aw)
  Dt : Def2 B 63 tk .none .none
  nt : B.mg "_law_taken" = some (.ref tk)
  Dc : Def2 B 3 ac .none .none
  nc : B.mg "_check_parenthesis" = some (.ref ac)
  m : Mail B a0 a1
  E : Eof B ae
  gk : BisK B ab
  b : Blt2 B
  l1 : B.mg "list" = none
  l2 : B.mb "list" = some (.type "list")
theorem ExtT.list {T : Addr} {H H' : Hp} {o : Obj} (x : ExtT T H H') (hT : H T = some (.raw o)) {a : Addr} {xs : List V} (h : H a = some (.list xs)) : H' a = some (.list xs) := x.1 a _ (by rintro rfl; rw [hT] at h; cases h) h
theorem ExtT.cell {T : Addr} {H H' : Hp} {o : Obj} (x : ExtT T H H') (hT : H T = some (.raw o)) {a : Addr} {v : Option V} (h : H a = some (.cell v)) : H' a = some (.cell v) := x.1 a _ (by rintro rfl; rw [hT] at h; cases h) h
theorem TabOk.raw {T : Addr} {q : Str} {PL : List Pos} {H : Hp} (h : TabOk T q PL H) : ∃ o, H T = some (.raw o) := let ⟨_, e, _⟩ := h; ⟨_, e⟩
theorem ExtT.new {T : Addr} {H H' : Hp} (x : ExtT T H H') {t : Addr} (n : H' t = none) (ht : t ≠ T) : H t = none := by
  cases e : H t with
  | none => rfl
  | some z => rw [x.1 t z ht e] at n; cases n
theorem ExtT.put {T : Addr} {H H' : Hp} (x : ExtT T H H') {t : Addr} (n : H t = none) (o : O) : ExtT T H (Mine.put H' t o) := ⟨fun a z na e => by
  rw [put_ne _ _ (by rintro rfl; rw [n] at e; cases e)]; exact x.1 a z na e, fun ps e => by
  rw [put_ne _ _ (by rintro rfl; rw [n] at e; cases e)]; exact x.2 ps e⟩
theorem TabOk.put {T : Addr} {q : Str} {PL : List Pos} {H : Hp} (h : TabOk T q PL H) {a : Addr} {o : O} (hr : ∀ ob, H a ≠ some (.raw ob)) : TabOk T q PL (Mine.put H a o) := by
  obtain ⟨ps, h1, h2, h3⟩ := h
  refine ⟨ps, by rw [put_ne _ _ (by rintro rfl; exact hr _ h1)]; exact h1, h2, fun p hp => ?_⟩
  rcases h3 p hp with g | ⟨c', oc, vs, t, g1, g2, g3, g4, g5⟩
  · exact .inl g
  · exact .inr ⟨c', oc, vs, t, g1, g2, by rw [put_ne _ _ (by rintro rfl; exact hr _ g3)]; exact g3, g4, g5⟩
theorem kind3 (one other n : Nat) : kindOf one other n < 3 := by unfold kindOf; split; decide; split <;> decide
theorem mov_ok {B : Base} {k am c T aw tk ac a0 a1 ae ab : Addr} {q : Str} (M : Mov B am c T q aw tk ac a0 a1 ae ab) {H : Hp} {l : Addr} {w : List Nat} {one other hd : Nat} {Φ : V → Hp → Prop} (hl : H l = some (.list (vN w))) (hw : w.length = 5) (hh : hd < 4) (hT : TabOk T q lamPos H)
    (h : ∀ H' r, ExtT T H H' → TabOk T q lamPos H' → H' r = some (.list (vN (movP (w.map (kindOf one other)) one w))) → Φ (.ref r) H') : WC B (k + 8) (.ref am) [.ref l, .int one, .int other, .str (hids hd)] H Φ := by
  obtain ⟨g1, g2, g3, g4⟩ := M.b
  have g5 := M.l1
  have g6 := M.l2
  have nw := M.nw
  have nt := M.nt
  have nb := M.gk.mg
  refine WC.defCX (some (c, q)) (fun c' q' e => by cases e; exact M.fc) M.D ?_ (names := ["word", "one", "other", "hidden", "size", "fronts", "need", "loose", "made"]) (vs0 := [none, none, none, none, none, none, none, none, none]) (bs := [("word", .ref l), ("one", .int one), ("other", .int other), ("hidden", .str (hids hd))]) (binding_plain (names := ["word", "one", "other", "hidden"]) rfl ?_) (xs := ["ahead", "cells"]) (by decide +kernel) (by with_unfolding_all rfl) ?_
  · walk_at "LK"
  · intro vals hv fd hp hd hk
    match vals, hv with
    | [v1, v2, v3, v4], _ => unfold bindArgs; rw [hp, hd]; rfl
  intro cs H0 hcl hnd hcn x0 hc0
  match cs, hcl with
  | [c1, c2], _ =>
  have fc1 := hc0 c1 (by simp)
  have fc2 := hc0 c2 (by simp)
  have h12 : c1 ≠ c2 := by simp at hnd; exact hnd
  have nc1 := hcn c1 (by simp)
  have nc2 := hcn c2 (by simp)
  simp only [List.zip_cons_cons, List.zip_nil_right]
  repeat walk_at "M"
  refine ⟨M.Dw.callee _, fun _ i => ?_⟩
  cases i
  refine written_ok M.Dw M.b M.E (x0 _ _ hl) (by omega) fun H1 r1 x1 n1 f1 => ?_
  refine WSt.cel (c := c2) (by simp) (x1 _ _ fc2) ?_ (by dsimp only; decide +kernel)
  generalize hds : w.map (kindOf one other) = ds at *
  have hdl : ds.length = 5 := by rw [← hds, List.length_map, hw]
  have hd3 : ∀ d ∈ ds, d < 3 := fun d hm => by rw [← hds] at hm; obtain ⟨n, _, rfl⟩ := List.mem_map.mp hm; exact kind3 _ _ _
  have C2 : put H1 c2 (.cell (some (.ref r1))) c2 = some (.cell (some (.ref r1))) := put_self _ _ _
  have C1 : put H1 c2 (.cell (some (.ref r1))) c1 = some (.cell none) := by rw [put_ne _ _ h12]; exact x1 _ _ fc1
  have hrc : r1 ≠ c2 := by rintro rfl; rw [n1] at fc2; cases fc2
  have R1 : put H1 c2 (.cell (some (.ref r1))) r1 = some (.list (vS (cellsOf (hids hd) ds))) := by rw [put_ne _ _ hrc]; exact f1
  have X1 : Ext H (put H1 c2 (.cell (some (.ref r1)))) := (x0.trans x1).put _ nc2
  generalize put H1 c2 (.cell (some (.ref r1))) = H2 at C1 C2 R1 X1
  repeat walk_at "M"
  refine WSs.assignC [("cells", c2)] ["size"] [none] ?_ (fun p hp => by cases List.mem_singleton.mp hp; simp) ?_ ?_
  · show CLooks _ (sScope (at2 64)) ["cells"] _ _
    walk_at "CL"
  case refine_3 => walk_at "SW"
  have hcln : (cellsOf (hids hd) ds).length = 5 := by unfold cellsOf; rw [cellsGo_len]; exact hdl
  refine WIt.rangeN 0 6 1 ?_
  repeat walk_at "M"
  refine call_len R1 (by rw [List.length_map, hcln]; decide) ?_
  rw [List.length_map, hcln]
  repeat walk_at "M"
  intro r2 H3 n3 e3 f3
  refine ⟨r2, rfl, f3, by decide +kernel, by decide +kernel, CompOk.new (fun i out H' => Ext H3 H' ∧ ∃ as : List Addr, out = as.map V.ref ∧ as.length = i ∧ ∀ (j : Nat) a, as[j]? = some a → H' a = some (.list (vS (cellsOf (hids hd) (ds.take j))))) (by decide +kernel) ⟨Ext.refl _, [], rfl, rfl, fun j a e => nomatch e⟩ (fun _ _ _ _ => trivial) ?_ ?_⟩
  · rintro i out H' v H4 hi ⟨xE, as, rfl, hal, has⟩ ⟨rfl, rfl⟩
    rw [show (0 : Int) + (i : Int) * 1 = (i : Int) by omega]
    have C2' := xE _ _ (e3 _ _ C2)
    have R1' := xE _ _ (e3 _ _ R1)
    repeat walk_at "M"
    refine sl_uptoN (n := i) (.of R1') (by rw [List.length_map, hcln]; decide +kernel) fun b H5 n5 e5 f5 => ?_
    refine ⟨xE.trans e5, as ++ [b], by simp, by simp [hal], fun j a hj => ?_⟩
    by_cases hji : j < as.length
    · rw [List.getElem?_append_left hji] at hj
      exact e5 _ _ (has j a hj)
    · rw [List.getElem?_append_right (by omega)] at hj
      have hj0 : j - as.length = 0 := by
        have := (List.getElem?_eq_some_iff.mp hj).1
        simp at this; omega
      rw [hj0] at hj
      obtain rfl : b = a := Option.some.inj hj
      have : j = i := by omega
      subst this
      rw [f5]
      unfold cellsOf
      rw [← cellsGo_take]
      simp only [vS, List.map_take]
  rintro out H' d1 H4 ⟨xE, as, rfl, hal, has⟩ nd ed fd
  rw [show rgCount 0 6 1 = 6 by decide +kernel] at hal
  have X4 : Ext H H4 := X1.trans (e3.trans (xE.trans ed))
  have C14 := ed _ _ (xE _ _ (e3 _ _ C1))
  have C24 := ed _ _ (xE _ _ (e3 _ _ C2))
  have R14 := ed _ _ (xE _ _ (e3 _ _ R1))
  have A4 : ∀ (j : Nat) a, as[j]? = some a → H4 a = some (.list (vS (cellsOf (hids hd) (ds.take j)))) := fun j a e => ed _ _ (has j a e)
  have D4 := fd
  have T4 := hT.ext X4
  have L4 := X4 _ _ hl
  clear e3 xE ed has C1 C2 R1 n3 f3 fc1 fc2 f1 n1 x1
  repeat walk_at "M"
  refine WE.callk ?_
  repeat walk_at "M"
  refine call_len R14 (by rw [List.length_map, hcln]; decide) ?_
  rw [List.length_map, hcln]
  repeat walk_at "M"
  intro r3 H5 n5 e5 f5
  repeat walk_at "M"
  refine call_list_rangeN (n := 5) f5 (by decide) ?_
  intro r4 H6 n6 e6 f6
  have e56 := e5.trans e6
  have X6 := X4.trans e56
  have C16 := e56 _ _ C14
  have C26 := e56 _ _ C24
  have R16 := e56 _ _ R14
  have A6 : ∀ (j : Nat) a, as[j]? = some a → H6 a = some (.list (vS (cellsOf (hids hd) (ds.take j)))) := fun j a e => e56 _ _ (A4 j a e)
  have D6 := e56 _ _ D4
  have T6 := T4.ext e56
  have L6 := e56 _ _ L4
  clear e5 e6 e56 n5 n6 f5 C14 C24 R14 A4 T4 L4 X4
  repeat walk_at "M"
  refine WE.lam M.LB rfl T6 (by show _ ∈ lamPos; exact List.mem_cons_self) (by decide +kernel) [("cells", c2)] (by with_unfolding_all rfl) (fun p hp => by cases List.mem_singleton.mp hp; simp) fun f1 H7 n7 x7 T7 F7 => ?_
  obtain ⟨oT, hoT⟩ := T6.raw
  have C17 := x7.cell hoT C16
  have C27 := x7.cell hoT C26
  have R17 := x7.list hoT R16
  have A7 : ∀ (j : Nat) a, as[j]? = some a → H7 a = some (.list (vS (cellsOf (hids hd) (ds.take j)))) := fun j a e => x7.list hoT (A6 j a e)
  have L7 := x7.list hoT L6
  have D7 := x7.list hoT D6
  have S7 := x7.list hoT f6
  have X7 := X6.toT.trans x7
  clear C16 C26 R16 A6 T6 L6 X6 hoT oT f6 n7 x7
  refine ⟨M.gk.df.choose_spec.choose_spec.1.callee _, fun _ i => ?_⟩
  cases i
  refine blk_ok (kf := fun a => taken ds a) M.gk S7 (by simp) (fun H' i x xE hx Ψ hΨ => ?_) (fun H' xE => (F7.ext xE).callee) fun H8 x8 => ?_
  · obtain ⟨hi5, rfl⟩ : i < 5 ∧ x = .int (i : Int) := by
      have h1 := (List.getElem?_eq_some_iff.mp hx).1
      have h1' : i < 5 := by simpa using h1
      rw [vN, List.getElem?_map, List.getElem?_range h1'] at hx
      exact ⟨h1', (Option.some.inj hx).symm⟩
    refine call_lam (fcs := [("cells", c2)]) (names := ["ahead"]) (vs0 := [none]) (pn := ["ahead"]) (F7.ext xE) ?_ rfl ?_ ?_
    · show LLooks _ ["ahead"] [none] ["cells"]
      exact ⟨by decide +kernel, by decide +kernel, by decide +kernel, by decide +kernel, by decide +kernel, by decide +kernel, by rfl, by decide +kernel, by decide +kernel⟩
    · intro fd vals hp hd hk hv
      match vals, hv with
      | [v], _ => unfold bindArgs; rw [hp, hd]; rfl
    simp only [List.zip_cons_cons, List.zip_nil_right]
    have C2' := xE _ _ C27
    have R1' := xE _ _ R17
    repeat walk_at "M"
    refine ⟨M.Dt.callee _, fun _ i => ?_⟩
    cases i
    exact taken_ok M.Dt M.Dc M.nc M.m R1' hh hi5 hd3 (by omega) hΨ
  have hneed : bisK (fun a => taken ds a) (vN (List.range 5)).length = needP ds := by
    unfold needP; rw [hdl]; simp
  rw [hneed]
  obtain ⟨k1, k2, k3⟩ := okMov_of hdl hd3
  obtain ⟨q1, q2⟩ := cells_countO hh ds 0
  have X8 := X7.trans x8.toT
  have C18 := x8 _ _ C17
  have C28 := x8 _ _ C27
  have R18 := x8 _ _ R17
  have A8 : ∀ (j : Nat) a, as[j]? = some a → H8 a = some (.list (vS (cellsOf (hids hd) (ds.take j)))) := fun j a e => x8 _ _ (A7 j a e)
  have L8 := x8 _ _ L7
  have D8 := x8 _ _ D7
  have T8 := T7.ext x8
  clear C17 C27 R17 A7 L7 T7 X7 F7 S7 x8
  repeat walk_at "M"
  refine WE.count ?_
  repeat walk_at "M"
  refine ⟨mty_list R18, ?_⟩
  repeat walk_at "M"
  refine call_countS (.of R18) ?_
  repeat walk_at "M"
  refine WE.count ?_
  repeat walk_at "M"
  refine ⟨mty_list R18, ?_⟩
  repeat walk_at "M"
  refine call_countS (.of R18) ?_
  rw [eOp, eCl, show (cellsOf (hids hd) ds).count sOp = _ from q1, show (cellsOf (hids hd) ds).count sCl = _ from q2]
  repeat walk_at "M"
  have hlo : ((needP ds : Nat) : Int) + ((ds.count 0 : Nat) : Int) - ((ds.count 1 : Nat) : Int) = ((looseP ds : Nat) : Int) := by unfold looseP; omega
  rw [hlo]
  refine sl_allN (.of L8) (by rw [List.length_map, hw]; decide +kernel) fun r5 H9 n9 e9 f9 => ?_
  have X9 := X8.trans e9.toT
  have C19 := e9 _ _ C18
  have C29 := e9 _ _ C28
  have A9 : ∀ (j : Nat) a, as[j]? = some a → H9 a = some (.list (vS (cellsOf (hids hd) (ds.take j)))) := fun j a e => e9 _ _ (A8 j a e)
  have D9 := e9 _ _ D8
  have T9 := T8.ext e9
  have hr5T : r5 ≠ T := by
    obtain ⟨oT, hoT⟩ := T8.raw
    exact Ne.symm (ne_of hoT n9)
  have hr5 : H r5 = none := X8.new n9 hr5T
  have hrc1 : r5 ≠ c1 := Ne.symm (ne_of C18 n9)
  have hrd1 : r5 ≠ d1 := Ne.symm (ne_of D8 n9)
  have hrA : ∀ (j : Nat) a, as[j]? = some a → r5 ≠ a := fun j a e => Ne.symm (ne_of (A8 j a e) n9)
  have hcd1 : c1 ≠ d1 := by rintro rfl; rw [C18] at D8; cases D8
  have hcA : ∀ (j : Nat) a, as[j]? = some a → c1 ≠ a := fun j a e => by rintro rfl; have := A8 j _ e; rw [C18] at this; cases this
  clear C18 C28 R18 A8 L8 T8 X8 e9 n9 D8 D7 D6 D4 C29 q1 q2
  have hc0 : ds.count 0 ≤ 5 := Nat.le_trans List.count_le_length (by omega)
  have hlo10 : looseP ds ≤ 10 := by unfold looseP; omega
  have hrg : rgCount (looseP ds) (needP ds) 1 = needP ds - looseP ds := by unfold rgCount; rw [rangeSize_nat]; omega
  repeat walk_at "M"
  refine WSs.for (WIt.rangeN (looseP ds) (needP ds) 1 ?_)
  repeat walk_at "M"
  intro r6 H10 n10 e10 f10
  refine ⟨r6, rfl, f10, small_one (by omega) (by omega) (by omega) (by omega), by rw [rangeSize_nat]; omega, fun i vars H' => ExtT T H H' ∧ TabOk T q lamPos H' ∧ ∃ (m : List Nat) (o1 : Option V) (o2 : Option V), movGo ds one (needP ds - looseP ds - i) (looseP ds + i) m = movP ds one w ∧ m.length = 5 ∧ H' r5 = some (.list (vN m)) ∧ H' c1 = some (.cell o1) ∧ H' d1 = some (.list (as.map V.ref)) ∧ (∀ (j : Nat) a, as[j]? = some a → H' a = some (.list (vS (cellsOf (hids hd) (ds.take j))))) ∧ vars = [some (.ref l), some (.int one), some (.int other), some (.str (hids hd)), o2, some (.ref d1), some (.int (needP ds : Nat)), some (.int (looseP ds : Nat)), some (.ref r5)], ?_, ?_, ?_, ?_⟩
  · exact ⟨X9.trans e10.toT, T9.ext e10, w, none, none, rfl, hw, e10 _ _ f9, e10 _ _ C19, e10 _ _ D9, fun j a e => e10 _ _ (A9 j a e), rfl⟩
  · exact fun _ _ _ _ => trivial
  · rintro i vars H' v H6 hi ⟨xE, TT, m, o1, o2, hgo, hml, U5, UC, UD, UA, rfl⟩ ⟨rfl, rfl⟩
    rw [hrg] at hi
    have hav : ((looseP ds : Nat) : Int) + (i : Int) * 1 = ((looseP ds + i : Nat) : Int) := by omega
    rw [hav]
    obtain ⟨s1, s2⟩ := k3 (looseP ds + i) (by omega) (by omega)
    have ha5 : looseP ds + i < 5 := by omega
    generalize hA : looseP ds + i = A at *
    have hcount : needP ds - looseP ds - i = (needP ds - looseP ds - (i + 1)) + 1 := by omega
    rw [hcount, movGo] at hgo
    refine WA.name (WSt.cel (c := c1) (by simp) UC ?_ (by dsimp only; decide +kernel))
    have V1 : put H6 c1 (.cell (some (.int (A : Nat)))) c1 = some (.cell (some (.int (A : Nat)))) := put_self _ _ _
    have V5 : put H6 c1 (.cell (some (.int (A : Nat)))) r5 = some (.list (vN m)) := by rw [put_ne _ _ hrc1]; exact U5
    have VD : put H6 c1 (.cell (some (.int (A : Nat)))) d1 = some (.list (as.map V.ref)) := by rw [put_ne _ _ (Ne.symm hcd1)]; exact UD
    have VA : ∀ (j : Nat) a, as[j]? = some a → put H6 c1 (.cell (some (.int (A : Nat)))) a = some (.list (vS (cellsOf (hids hd) (ds.take j)))) := fun j a e => by rw [put_ne _ _ (Ne.symm (hcA j a e))]; exact UA j a e
    have VT : TabOk T q lamPos (put H6 c1 (.cell (some (.int (A : Nat))))) := TT.put fun ob e => by rw [UC] at e; cases e
    have VX := xE.put (t := c1) nc1 (.cell (some (.int (A : Nat))))
    generalize put H6 c1 (.cell (some (.int (A : Nat)))) = H7 at V1 V5 VD VA VT VX
    clear U5 UC UD UA TT xE
    repeat walk_at "M"
    refine WE.callk ?_
    repeat walk_at "M"
    refine WE.lam M.LB rfl VT (by show _ ∈ lamPos; exact List.mem_cons_of_mem _ List.mem_cons_self) (by decide +kernel) [("ahead", c1)] (by with_unfolding_all rfl) (fun p hp => by cases List.mem_singleton.mp hp; simp) fun f1 H8 n8 x8 T8 F8 => ?_
    obtain ⟨oT, hoT⟩ := VT.raw
    have W1 := x8.cell hoT V1
    have W5 := x8.list hoT V5
    have WD := x8.list hoT VD
    have WAA : ∀ (j : Nat) a, as[j]? = some a → H8 a = some (.list (vS (cellsOf (hids hd) (ds.take j)))) := fun j a e => x8.list hoT (VA j a e)
    have WX := VX.trans x8
    clear V1 V5 VD VA VT VX hoT oT x8 n8
    refine ⟨M.gk.df.choose_spec.choose_spec.1.callee _, fun _ i => ?_⟩
    cases i
    refine blk_ok (kf := fun j => !taken (ds.take j) A) M.gk WD (by rw [List.length_map, hal]; decide) (fun H' j x xE hx Ψ hΨ => ?_) (fun H' xE => (F8.ext xE).callee) fun H9 x9 => ?_
    · rw [List.getElem?_map, Option.map_eq_some_iff] at hx
      obtain ⟨aj, haj, rfl⟩ := hx
      refine call_lam (fcs := [("ahead", c1)]) (names := ["front"]) (vs0 := [none]) (pn := ["front"]) (F8.ext xE) ?_ rfl ?_ ?_
      · show LLooks _ ["front"] [none] ["ahead"]
        exact ⟨by decide +kernel, by decide +kernel, by decide +kernel, by decide +kernel, by decide +kernel, by decide +kernel, by rfl, by decide +kernel, by decide +kernel⟩
      · intro fd vals hp hd hk hv
        match vals, hv with
        | [v], _ => unfold bindArgs; rw [hp, hd]; rfl
      simp only [List.zip_cons_cons, List.zip_nil_right]
      have W1' := xE _ _ W1
      have WA' := xE _ _ (WAA j aj haj)
      repeat walk_at "M"
      refine WE.not ?_
      repeat walk_at "M"
      refine ⟨M.Dt.callee _, fun _ i => ?_⟩
      cases i
      refine taken_ok M.Dt M.Dc M.nc M.m WA' hh ha5 (fun d hm => hd3 d (List.mem_of_mem_take hm)) (by rw [List.length_take]; omega) fun H'' x2 => ?_
      repeat walk_at "M"
      exact hΨ _ x2
    have hsz : bisK (fun j => !taken (ds.take j) A) (as.map V.ref).length = sizeP ds A := by
      unfold sizeP; rw [List.length_map, hal, hdl]
    rw [hsz]
    have Y1 := x9 _ _ W1
    have Y5 := x9 _ _ W5
    have YD := x9 _ _ WD
    have YA : ∀ (j : Nat) a, as[j]? = some a → H9 a = some (.list (vS (cellsOf (hids hd) (ds.take j)))) := fun j a e => x9 _ _ (WAA j a e)
    have YT := T8.ext x9
    have YX := WX.trans x9.toT
    clear W1 W5 WD WAA T8 WX F8 x9
    repeat walk_at "M"
    rw [show ((sizeP ds A : Nat) : Int) - 1 = ((sizeP ds A - 1 : Nat) : Int) by omega]
    refine set_nat Y5 (by omega) (by omega) ?_
    repeat walk_at "M"
    refine ⟨YX.put hr5 _, YT.put (fun ob e => by rw [Y5] at e; cases e), m.set (sizeP ds A - 1) one, some (.int (A : Nat)), _, ?_, by rw [List.length_set]; exact hml, put_self _ _ _, by rw [put_ne _ _ (Ne.symm hrc1)]; exact Y1, by rw [put_ne _ _ (Ne.symm hrd1)]; exact YD, fun j a e => by rw [put_ne _ _ (Ne.symm (hrA j a e))]; exact YA j a e, rfl⟩
    rw [show looseP ds + (i + 1) = A + 1 by omega]
    exact hgo
  rintro vars H' ⟨xE, TT, m, o1, o2, hgo, hml, U5, UC, UD, UA, rfl⟩
  rw [hrg, Nat.sub_self, movGo] at hgo
  repeat walk_at "M"
  refine h _ _ xE TT ?_
  rw [U5, hgo]
end
section
theorem movGo_len (ds : List Nat) (one : Nat) : ∀ (c a : Nat) (m : List Nat), (movGo ds one c a m).length = m.length
  | 0, _, _ => rfl
  | c + 1, a, m => by rw [movGo, movGo_len ds one c, List.length_set]
theorem movP_len (ds : List Nat) (one : Nat) (w : List Nat) : (movP ds one w).length = w.length := movGo_len _ _ _ _ _
def exP (lo hi : Nat) (w : List Nat) : List Nat := if w.count lo < w.count hi then (movP (w.reverse.map (kindOf lo hi)) lo w.reverse).reverse else movP (w.map (kindOf hi lo)) hi w
theorem exP_len (lo hi : Nat) (w : List Nat) : (exP lo hi w).length = w.length := by
  unfold exP
  split
  · rw [List.length_reverse, movP_len, List.length_reverse]
  · rw [movP_len]
theorem count_nat {B : Base} {k : Nat} {H : Hp} {a : Addr} {ns : List Nat} {n : Nat} {Φ : V → Hp → Prop} (hl : H a = some (.list (vN ns))) (h : Φ (.int ((ns.count n : Nat) : Int)) H) : WC B k (.builtin "list.count") [.ref a, .int n] H Φ := by
  refine call_countI (ns := ns.map Int.ofNat) (.of (by rw [hl, vN_vI])) ?_
  have : (ns.map Int.ofNat).count (n : Int) = ns.count n := by
    clear hl h
    induction ns with
    | nil => rfl
    | cons a r ih =>
      rw [List.map_cons, List.count_cons, List.count_cons, ih]
      congr 1
      by_cases e : a = n
      · subst e; simp
      · have : ¬ (a : Int) = (n : Int) := by omega
        simp [e, this]
  rw [this]; exact h
theorem vN_rev (l : List Nat) : (vN l).reverse = vN l.reverse := by simp [vN]
theorem exch_ok {B : Base} {k ax am c T aw tk ac a0 a1 ae ab : Addr} {q : Str} (D : Def2 B 65 ax .none .none) (M : Mov B am c T q aw tk ac a0 a1 ae ab) {H : Hp} {l : Addr} {w : List Nat} {lo hi hd : Nat} {Φ : V → Hp → Prop} (hl : H l = some (.list (vN w))) (hw : w.length = 5) (hh : hd < 4) (hT : TabOk T q lamPos H)
    (h : ∀ H' r, ExtT T H H' → TabOk T q lamPos H' → H' r = some (.list (vN (exP lo hi w))) → Φ (.ref r) H') : WC B (k + 9) (.ref ax) [.ref l, .int lo, .int hi, .str (hids hd)] H Φ := by
  have nm := M.n
  refine WC.def0 D ?_ (names := ["word", "low", "high", "hidden"]) (vs0 := [none, none, none, none]) (bs := [("word", .ref l), ("low", .int lo), ("high", .int hi), ("hidden", .str (hids hd))]) (binding_plain (names := ["word", "low", "high", "hidden"]) rfl ?_) (by decide +kernel) (by with_unfolding_all rfl) ?_
  · walk_at "LK"
  · intro vals hv fd hp hd hk
    match vals, hv with
    | [v1, v2, v3, v4], _ => unfold bindArgs; rw [hp, hd]; rfl
  repeat walk_at "M"
  refine WE.count ?_
  repeat walk_at "M"
  refine ⟨mty_list hl, ?_⟩
  repeat walk_at "M"
  refine count_nat hl ?_
  refine WE.count ?_
  repeat walk_at "M"
  refine ⟨mty_list hl, ?_⟩
  repeat walk_at "M"
  refine count_nat hl ?_
  repeat walk_at "M"
  refine ⟨fun hc => ?_, fun hc => ?_⟩
  · have hlt : w.count lo < w.count hi := by simpa using hc
    repeat walk_at "M"
    refine sl_revN (.of hl) (by rw [List.length_map, hw]; decide +kernel) fun r1 H1 n1 e1 f1 => ?_
    rw [vN_rev] at f1
    repeat walk_at "M"
    refine ⟨M.D.callee _, fun _ i => ?_⟩
    cases i
    refine mov_ok M f1 (by rw [List.length_reverse, hw]) hh (hT.ext e1) fun H2 r2 x2 T2 f2 => ?_
    repeat walk_at "M"
    refine sl_revN (.of f2) (by rw [List.length_map, movP_len, List.length_reverse, hw]; decide +kernel) fun r3 H3 n3 e3 f3 => ?_
    rw [vN_rev] at f3
    repeat walk_at "M"
    refine h _ _ ((e1.toT.trans x2).trans e3.toT) (T2.ext e3) ?_
    rw [f3]; unfold exP; rw [if_pos hlt]
  · have hlt : ¬ w.count lo < w.count hi := by simpa using hc
    repeat walk_at "M"
    refine ⟨M.D.callee _, fun _ i => ?_⟩
    cases i
    refine mov_ok M hl hw hh hT fun H2 r2 x2 T2 f2 => ?_
    repeat walk_at "M"
    refine h _ _ x2 T2 ?_
    rw [f2]; unfold exP; rw [if_neg hlt]
end
section
/-! rising maps of the letters -/
section
variable {τ : Nat → Nat} (hτ : ∀ a b, a < b → τ a < τ b)
include hτ
theorem tLt (a b : Nat) : τ a < τ b ↔ a < b := by
  constructor
  · intro h
    rcases Nat.lt_trichotomy a b with q | q | q
    · exact q
    · subst q; exact absurd h (Nat.lt_irrefl _)
    · have := hτ _ _ q; omega
  · exact hτ a b
theorem tEq (a b : Nat) : τ a = τ b ↔ a = b := by
  constructor
  · intro h
    rcases Nat.lt_trichotomy a b with q | q | q
    · have := hτ _ _ q; omega
    · exact q
    · have := hτ _ _ q; omega
  · rintro rfl; rfl
theorem goR_map (ns : List Nat) (n : Nat) : ∀ (f lo hi : Nat), hi ≤ ns.length → goR (ns.map τ) (τ n) f lo hi = goR ns n f lo hi
  | 0, _, _, _ => rfl
  | f + 1, lo, hi, h => by
    rw [goR, goR]
    by_cases q : lo < hi
    · rw [if_pos q, if_pos q]
      have hm : (lo + hi) / 2 < ns.length := by omega
      have e : (ns.map τ).getD ((lo + hi) / 2) 0 = τ (ns.getD ((lo + hi) / 2) 0) := by
        rw [List.getD_eq_getElem?_getD, List.getD_eq_getElem?_getD, List.getElem?_map, List.getElem?_eq_getElem hm]; rfl
      rw [e, goR_map ns n f lo _ (by omega), goR_map ns n f _ hi h]
      by_cases q2 : n < ns.getD ((lo + hi) / 2) 0
      · rw [if_pos q2, if_pos ((tLt hτ _ _).mpr q2)]
      · rw [if_neg q2, if_neg (fun x => q2 ((tLt hτ _ _).mp x))]
    · rw [if_neg q, if_neg q]
theorem bisR_map (ns : List Nat) (n : Nat) : bisR (ns.map τ) (τ n) = bisR ns n := by
  unfold bisR
  rw [List.length_map]
  exact goR_map hτ ns n _ _ _ (Nat.le_refl _)
omit hτ in
theorem pile_map (rows : List (List Nat)) (k : Nat) : pile (rows.map (List.map τ)) k = (pile rows k).map τ := by
  unfold pile
  rw [List.getD_eq_getElem?_getD, List.getD_eq_getElem?_getD, List.getElem?_map]
  cases rows[k]? <;> rfl
theorem insK_map : ∀ (f : Nat) (rows : List (List Nat)) (k n : Nat), insK f (rows.map (List.map τ)) k (τ n) = (insK f rows k n).map fun q => (q.1.map (List.map τ), q.2)
  | 0, _, _, _ => rfl
  | f + 1, rows, k, n => by
    rw [insK, insK, pile_map, bisR_map hτ, List.length_map, List.length_map]
    by_cases q : k < rows.length ∧ (pile rows k).length ≤ 10
    · rw [if_pos q, if_pos q]
      by_cases q2 : bisR (pile rows k) n < (pile rows k).length
      · rw [if_pos q2, if_pos q2]
        have e : ((pile rows k).map τ).getD (bisR (pile rows k) n) 0 = τ ((pile rows k).getD (bisR (pile rows k) n) 0) := by
          rw [List.getD_eq_getElem?_getD, List.getD_eq_getElem?_getD, List.getElem?_map, List.getElem?_eq_getElem q2]; rfl
        rw [e, ← List.map_set, ← List.map_set]
        exact insK_map f _ _ _
      · rw [if_neg q2, if_neg q2]
        simp only [Option.map_some, List.map_set, List.map_append, List.map_cons, List.map_nil]
    · rw [if_neg q, if_neg q]; rfl
theorem laidRun_map : ∀ (w : List Nat) (rows : List (List Nat)) (told : List Nat), laidRun (w.map τ) (rows.map (List.map τ), told) = (laidRun w (rows, told)).map fun q => (q.1.map (List.map τ), q.2)
  | [], _, _ => rfl
  | n :: r, rows, told => by
    rw [List.map_cons, laidRun, laidRun, insK_map hτ]
    cases insK 7 rows 0 n with
    | none => rfl
    | some q =>
      show laidRun (r.map τ) (q.1.map (List.map τ), told ++ [q.2]) = _
      rw [laidRun_map r]; rfl
theorem kind_map (lo hi n : Nat) : kindOf (τ lo) (τ hi) (τ n) = kindOf lo hi n := by
  unfold kindOf
  by_cases h1 : n = lo
  · rw [if_pos h1, if_pos ((tEq hτ _ _).mpr h1)]
  · rw [if_neg h1, if_neg (fun x => h1 ((tEq hτ _ _).mp x))]
    by_cases h2 : n = hi
    · rw [if_pos h2, if_pos ((tEq hτ _ _).mpr h2)]
    · rw [if_neg h2, if_neg (fun x => h2 ((tEq hτ _ _).mp x))]
theorem count_map (w : List Nat) (n : Nat) : (w.map τ).count (τ n) = w.count n := by
  induction w with
  | nil => rfl
  | cons a r ih =>
    rw [List.map_cons, List.count_cons, List.count_cons, ih]
    congr 1
    by_cases e : a = n
    · subst e; simp
    · have : ¬ τ a = τ n := fun x => e ((tEq hτ _ _).mp x)
      simp [e, this]
omit hτ in
theorem movGo_map (ds : List Nat) (one : Nat) : ∀ (c a : Nat) (m : List Nat), movGo ds (τ one) c a (m.map τ) = (movGo ds one c a m).map τ
  | 0, _, _ => rfl
  | c + 1, a, m => by rw [movGo, movGo, ← List.map_set]; exact movGo_map ds one c _ _
theorem exP_map (lo hi : Nat) (w : List Nat) : exP (τ lo) (τ hi) (w.map τ) = (exP lo hi w).map τ := by
  have hk : ∀ (a b : Nat) (l : List Nat), (l.map τ).map (kindOf (τ a) (τ b)) = l.map (kindOf a b) := fun a b l => by
    rw [List.map_map]
    exact List.map_congr_left fun x _ => kind_map hτ a b x
  unfold exP
  rw [count_map hτ, count_map hτ]
  by_cases q : w.count lo < w.count hi
  · rw [if_pos q, if_pos q, ← List.map_reverse, hk]
    unfold movP
    rw [movGo_map]
    exact List.map_reverse.symm
  · rw [if_neg q, if_neg q, hk]
    unfold movP
    rw [movGo_map]
theorem dueRun_map (lo hi : Nat) : ∀ (w : List Nat) (p : Nat) (st : DSt), dueRun (τ lo) (τ hi) (w.map τ) p st = dueRun lo hi w p st
  | [], _, _ => rfl
  | n :: r, p, st => by
    rw [List.map_cons, dueRun, dueRun]
    have e : dueStep (τ lo) (τ hi) st p (τ n) = dueStep lo hi st p n := by
      unfold dueStep
      by_cases h1 : n = hi
      · rw [if_pos h1, if_pos ((tEq hτ _ _).mpr h1)]
      · rw [if_neg h1, if_neg (fun x => h1 ((tEq hτ _ _).mp x))]
        by_cases h2 : n = lo
        · rw [if_pos h2, if_pos ((tEq hτ _ _).mpr h2)]
        · rw [if_neg h2, if_neg (fun x => h2 ((tEq hτ _ _).mp x))]
    rw [e]
    exact dueRun_map lo hi r _ _
omit hτ in
theorem dueSet_map (loose : List Nat) (c lo hi : Nat) (m : List Nat) : ∀ k, dueSet loose c (τ lo) (τ hi) k (m.map τ) = (dueSet loose c lo hi k m).map τ
  | 0 => rfl
  | k + 1 => by
    rw [dueSet, dueSet, dueSet_map loose c lo hi m k, List.map_set]
    congr 1
    split <;> rfl
theorem dueP_map (lo hi : Nat) (w : List Nat) : dueP (w.map τ) (τ lo) (τ hi) = (dueP w lo hi).map τ := by
  unfold dueP
  rw [dueRun_map hτ]
  exact dueSet_map _ _ _ _ _ _
end
/-! the law, of words of ranks -/
def stepW (w : List Nat) (s : Nat) : List Nat := exP s (s + 1) w
def stepD (d : List Nat) (s : Nat) : List Nat := dueP d (1 - s) (2 - s)
def steps (t : Nat) : List Nat := [t, 1 - t, t]
def lawB (w : List Nat) (t : Nat) : Bool := match laidRun w (List.replicate 6 [], []) with
  | some (rows, grown) => decide (rows.reverse.flatten.length = 5) && (match laidRun ((steps t).foldl stepW w) (List.replicate 6 [], []) with
    | some (rows', told) => decide (rows'.reverse.flatten = (steps t).foldl stepD rows.reverse.flatten) && decide (told = grown)
    | none => false)
  | none => false
theorem law_all : ((words 5).all fun w => lawB w 0 && lawB w 1) = true := by decide +kernel
end
section
theorem str_cps (x : Str) : (⟨x.cps.toList.toArray⟩ : Str) = x := by cases x; simp
theorem join_cps : ∀ ys : List Str, (Txt.join "" ys).cps.toList = (ys.map (·.cps.toList)).flatten := by
  intro ys
  show (Builtin.Str.glued "" ys).cps.toList = _
  unfold Builtin.Str.glued
  have key : ∀ (l : List Str) (acc : Array Nat), (l.foldl (fun acc p => acc ++ (Str.ofString "").cps ++ p.cps) acc).toList = acc.toList ++ (l.map (·.cps.toList)).flatten := by
    intro l
    induction l with
    | nil => intro acc; simp
    | cons a r ih =>
      intro acc
      rw [List.foldl_cons, ih]
      have : (Str.ofString "").cps = #[] := by decide +kernel
      rw [this]
      simp
  cases ys with
  | nil => decide +kernel
  | cons a r => exact (key r a.cps).trans (by simp)
structure Cels (H0 H : Hp) (cs : List Addr) (ws : List (Option V)) : Prop where
  nd : cs.Nodup
  new : ∀ c ∈ cs, H0 c = none
  val : ∀ (i : Nat) c, cs[i]? = some c → ∃ w, ws[i]? = some w ∧ H c = some (.cell w)
theorem Cels.get {H0 H : Hp} {cs : List Addr} {ws : List (Option V)} (C : Cels H0 H cs ws) {i : Nat} {c : Addr} {w : Option V} (h1 : cs[i]? = some c) (h2 : ws[i]? = some w) : H c = some (.cell w) := by
  obtain ⟨w', a, b⟩ := C.val i c h1
  rw [h2] at a; cases a; exact b
theorem Cels.ext {H0 H H' : Hp} {cs : List Addr} {ws : List (Option V)} (C : Cels H0 H cs ws) (x : Ext H H') : Cels H0 H' cs ws := ⟨C.nd, C.new, fun i c h => let ⟨w, a, b⟩ := C.val i c h; ⟨w, a, x _ _ b⟩⟩
theorem Cels.notin {H0 H : Hp} {cs : List Addr} {ws : List (Option V)} (C : Cels H0 H cs ws) {b : Addr} {xs : List V} (h : H b = some (.list xs)) : b ∉ cs := fun hm => by
  obtain ⟨i, hi⟩ := List.mem_iff_getElem?.mp hm
  obtain ⟨w, _, e⟩ := C.val i b hi
  rw [h] at e; cases e
theorem Cels.set {H0 H : Hp} {cs : List Addr} {ws : List (Option V)} (C : Cels H0 H cs ws) {i : Nat} {c : Addr} (h : cs[i]? = some c) (v : V) : Cels H0 (put H c (.cell (some v))) cs (ws.set i (some v)) := by
  refine ⟨C.nd, C.new, fun j d hd => ?_⟩
  obtain ⟨w, a, b⟩ := C.val j d hd
  by_cases e : j = i
  · subst e
    rw [h] at hd; cases hd
    exact ⟨some v, by rw [List.getElem?_set_self (List.getElem?_eq_some_iff.mp a).1], put_self _ _ _⟩
  · exact ⟨w, by rw [List.getElem?_set_ne (Ne.symm e)]; exact a, by rw [put_ne _ _ (by rintro rfl; exact e (nodup_get C.nd hd h))]; exact b⟩
theorem Cels.ne {H0 H : Hp} {cs : List Addr} {ws : List (Option V)} (C : Cels H0 H cs ws) {b : Addr} (hb : b ∉ cs) (o : O) : Cels H0 (put H b o) cs ws :=
  ⟨C.nd, C.new, fun i c h => let ⟨w, a, e⟩ := C.val i c h; ⟨w, a, by rw [put_ne _ _ (by rintro rfl; exact hb (List.mem_of_getElem? h))]; exact e⟩⟩
theorem Cels.start {H0 H : Hp} {cs : List Addr} (nd : cs.Nodup) (n : ∀ c ∈ cs, H0 c = none) (h : ∀ c ∈ cs, H c = some (.cell none)) : Cels H0 H cs (List.replicate cs.length none) :=
  ⟨nd, n, fun i c hc => ⟨none, by rw [List.getElem?_replicate, if_pos (List.getElem?_eq_some_iff.mp hc).1], h c (List.mem_of_getElem? hc)⟩⟩
theorem Cels.keep {H0 H : Hp} {cs : List Addr} {ws : List (Option V)} (C : Cels H0 H cs ws) {c b : Addr} {o : O} {xs : List V} (hc : c ∈ cs) (h : H b = some (.list xs)) : put H c o b = some (.list xs) := by
  rw [put_ne _ _ (by rintro rfl; exact C.notin h hc)]; exact h
structure Law2 (B : Base) (T : Addr) (q : Str) (f : Str → Option Value) (code : Nat → Nat) : Prop where
  b : Blt2 B
  s1 : B.mg "sum" = none
  s2 : B.mb "sum" = some (.builtin "sum")
  t1 : B.mg "sorted" = none
  t2 : B.mb "sorted" = some (.builtin "sorted")
  ops : ∃ a, Def2 B 60 a .none .none ∧ B.mg "_law_operators" = some (.ref a)
  cut : ∃ a d, Def2 B 61 a .none .none ∧ B.mg "_law_cut" = some (.ref a) ∧ Tab B d f ∧ CutT f code ∧ B.mg "EXACT_TOKEN_TYPES" = some (.ref d)
  inc : ∀ i j, i < j → j < 29 → code i < code j
  ex : ∃ ax am c aw tk ac a0 a1 ae ab, Def2 B 65 ax .none .none ∧ B.mg "_law_exchanged" = some (.ref ax) ∧ Mov B am c T q aw tk ac a0 a1 ae ab
  la : ∃ a ar, Def2 B 66 a .none .none ∧ B.mg "_law_laid" = some (.ref a) ∧ Bis B 5 ar "bisect_right"
  du : ∃ a, Def2 B 67 a .none .none ∧ B.mg "_law_due" = some (.ref a)
def li (cd k : Nat) : Nat := cd % 5 + (1 + cd / 5 % 12) * k
def tau (code : Nat → Nat) (cd r : Nat) : Nat := if r < 3 then code (li cd r) else code (li cd 2) + r
theorem li_lt {cd k : Nat} (hk : k < 3) : li cd k < 29 := by
  unfold li
  have h1 := Nat.mod_lt cd (show 0 < 5 by decide)
  have h2 := Nat.mod_lt (cd / 5) (show 0 < 12 by decide)
  have : (1 + cd / 5 % 12) * k ≤ 12 * 2 := Nat.mul_le_mul (by omega) (by omega)
  omega
theorem tau_inc {B : Base} {T : Addr} {q : Str} {f : Str → Option Value} {code : Nat → Nat} (L : Law2 B T q f code) (cd : Nat) : ∀ a b, a < b → tau code cd a < tau code cd b := by
  intro a b h
  have hl : ∀ x y, x < y → y < 3 → code (li cd x) < code (li cd y) := fun x y hxy hy => by
    refine L.inc _ _ ?_ (li_lt hy)
    unfold li
    have : (1 + cd / 5 % 12) * x < (1 + cd / 5 % 12) * y := Nat.mul_lt_mul_of_pos_left hxy (by omega)
    omega
  unfold tau
  by_cases hb : b < 3
  · rw [if_pos hb, if_pos (by omega)]; exact hl a b h hb
  · rw [if_neg hb]
    by_cases ha : a < 3
    · rw [if_pos ha]
      rcases Nat.lt_or_ge a 2 with h2 | h2
      · have := hl a 2 h2 (by omega); omega
      · have : a = 2 := by omega
        subst this; omega
    · rw [if_neg ha]; omega
def ranksOf (d : Nat) : List Nat := (List.range 5).map fun p => d / 3 ^ p % 3
theorem perm_sorted : ∀ {a b : List Int}, a.Perm b → a.Pairwise (· ≤ ·) → b.Pairwise (· ≤ ·) → a = b
  | [], b, p, _, _ => p.nil_eq
  | x :: a, [], p, _, _ => (nomatch p.length_eq)
  | x :: a, y :: b, p, h1, h2 => by
    have hx : x = y := by
      have e1 : x ∈ y :: b := p.subset List.mem_cons_self
      have e2 : y ∈ x :: a := p.symm.subset List.mem_cons_self
      rw [List.pairwise_cons] at h1 h2
      rcases List.mem_cons.mp e1 with r | r
      · exact r
      · rcases List.mem_cons.mp e2 with s | s
        · exact s.symm
        · exact Int.le_antisymm (h1.1 _ s) (h2.1 _ r)
    subst hx
    rw [perm_sorted (List.Perm.cons_inv p) (List.pairwise_cons.mp h1).2 (List.pairwise_cons.mp h2).2]
theorem hid_get {i : Nat} (h : i < 4) : ([V.str "\\)", V.str "\"(\"", V.str "\\\"", V.str "\\\\"] : List V)[((i : Nat) : Int).toNat]? = some (.str (hids i)) := by
  have e0 : Str.ofString "\\)" = hids 0 := by decide +kernel
  have e1 : Str.ofString "\"(\"" = hids 1 := by decide +kernel
  have e2 : Str.ofString "\\\"" = hids 2 := by decide +kernel
  have e3 : Str.ofString "\\\\" = hids 3 := by decide +kernel
  rw [e0, e1, e2, e3, Int.toNat_natCast]
  match i, h with
  | 0, _ => rfl
  | 1, _ => rfl
  | 2, _ => rfl
  | 3, _ => rfl
theorem join_ops (ls : List Nat) : Txt.join "" (ls.map fun i => ops.getD i ⟨#[]⟩) = ⟨((ls.map oc).flatten).toArray⟩ := by
  rw [← str_cps (Txt.join "" (ls.map fun i => ops.getD i ⟨#[]⟩)), join_cps, List.map_map]; rfl
theorem joinOk_ops {ls : List Nat} (h : ∀ i ∈ ls, i < 29) (hl : ls.length ≤ 5) : JoinOk "" (ls.map fun i => ops.getD i ⟨#[]⟩) = true := by
  refine joinOk_of_weight ?_ (by decide +kernel)
  have h1 := sum_le_mul (l := (ls.map fun i => ops.getD i ⟨#[]⟩).map (·.length)) (m := 3) fun n hn => by
    rw [List.map_map] at hn
    obtain ⟨i, hi, rfl⟩ := List.mem_map.mp hn
    have := of_decide_eq_true (List.all_eq_true.mp oc_len i (List.mem_range.mpr (h i hi)))
    have e : (oc i).length = (ops.getD i ⟨#[]⟩).length := by unfold oc; simp [Str.length]
    show (ops.getD i ⟨#[]⟩).length ≤ 3
    omega
  rw [List.length_map, List.length_map] at h1
  rw [List.length_map]; omega
theorem ranks_get {dr i rk : Nat} (h : (ranksOf dr)[i]? = some rk) : rk < 3 := by
  unfold ranksOf at h
  rw [List.getElem?_map, Option.map_eq_some_iff] at h
  obtain ⟨p, _, rfl⟩ := h
  exact Nat.mod_lt _ (by decide)
theorem ranks_lt {dr r : Nat} (h : r ∈ ranksOf dr) : r < 3 := by
  obtain ⟨i, hi⟩ := List.mem_iff_getElem?.mp h
  exact ranks_get hi
theorem ranks_len (dr : Nat) : (ranksOf dr).length = 5 := by unfold ranksOf; simp
theorem lawB_ok (dr : Nat) {t : Nat} (ht : t < 2) : ∃ rows grown rows' told, laidRun (ranksOf dr) (List.replicate 6 [], []) = some (rows, grown) ∧ rows.reverse.flatten.length = 5 ∧ laidRun ((steps t).foldl stepW (ranksOf dr)) (List.replicate 6 [], []) = some (rows', told) ∧ rows'.reverse.flatten = (steps t).foldl stepD rows.reverse.flatten ∧ told = grown := by
  have h1 := List.all_eq_true.mp law_all (ranksOf dr) (by have := mem_words (ranksOf dr) (fun d hd => ranks_lt hd); rw [ranks_len] at this; exact this)
  have h2 : lawB (ranksOf dr) t = true := by
    rw [Bool.and_eq_true] at h1
    match t, ht with
    | 0, _ => exact h1.1
    | 1, _ => exact h1.2
  unfold lawB at h2
  split at h2
  · rename_i rows grown e
    rw [Bool.and_eq_true] at h2
    obtain ⟨h3, h4⟩ := h2
    split at h4
    · rename_i rows' told e'
      rw [Bool.and_eq_true] at h4
      exact ⟨rows, grown, rows', told, e, of_decide_eq_true h3, e', of_decide_eq_true h4.1, of_decide_eq_true h4.2⟩
    · cases h4
  · cases h2
theorem stepW_len (w : List Nat) (s : Nat) : (stepW w s).length = w.length := exP_len _ _ _
theorem stepD_len (w : List Nat) (s : Nat) : (stepD w s).length = w.length := dueSet_len _ _ _ _ _ _
theorem foldW_len : ∀ (l : List Nat) (w : List Nat), (l.foldl stepW w).length = w.length
  | [], _ => rfl
  | s :: r, w => by rw [List.foldl_cons, foldW_len r, stepW_len]
theorem foldD_len : ∀ (l : List Nat) (w : List Nat), (l.foldl stepD w).length = w.length
  | [], _ => rfl
  | s :: r, w => by rw [List.foldl_cons, foldD_len r, stepD_len]
theorem laid_tau {τ : Nat → Nat} (hτ : ∀ a b, a < b → τ a < τ b) {w : List Nat} {rows : List (List Nat)} {g : List Nat} (h : laidRun w (List.replicate 6 [], []) = some (rows, g)) :
    laidRun (w.map τ) (List.replicate 6 [], []) = some (rows.map (List.map τ), g) ∧ (rows.map (List.map τ)).reverse.flatten = rows.reverse.flatten.map τ := by
  have := laidRun_map hτ w (List.replicate 6 []) []
  rw [h] at this
  refine ⟨this, ?_⟩
  rw [← List.map_reverse, List.map_flatten]
theorem tau_code {code : Nat → Nat} {cd r : Nat} (h : r < 3) : tau code cd r = code (li cd r) := by unfold tau; rw [if_pos h]
theorem law2_ok {B : Base} {k a T : Nat} {q : Str} {f : Str → Option Value} {code : Nat → Nat} (D : Def2 B 68 a .none .none) (G : Law2 B T q f code) {H : Hp} {l : Addr} {xs : List Int} {Φ : V → Hp → Prop} (hl : Lst H l (vI xs)) (hx : ∀ H', Ext H H' → Lst H' l (vI xs)) (hz : xs.length ≤ sizeLine) (hT : TabOk T q lamPos H)
    (h : ∀ H', ExtT T H H' → Φ (.bool true) H') : WC B (k + 10) (.ref a) [.ref l] H Φ := by
  have b := G.b
  have g1 := G.s1
  have g2 := G.s2
  have g3 := G.t1
  have g4 := G.t2
  have g5 := b.r1
  have g6 := b.r2
  obtain ⟨aop, Dop, mop⟩ := G.ops
  obtain ⟨acu, d, Dcu, mcu, TB, CT, md⟩ := G.cut
  obtain ⟨ax, am, c, aw, tk, ac, a0, a1, ae, ab, Dx, mx, M⟩ := G.ex
  obtain ⟨ala, ar, Dla, mla, gbr⟩ := G.la
  obtain ⟨adu, Ddu, mdu⟩ := G.du
  refine WC.defCX none (fun _ _ e => nomatch e) D ?_ (names := ["script", "ranks", "turn", "hidden", "drawn", "word", "due", "grown", "step", "reading", "told"]) (vs0 := [none, none, none, none, none, none, none, none, none, none, none]) (bs := [("script", .ref l)]) (binding_plain (names := ["script"]) rfl ?_) (xs := ["draw", "code", "operators", "letters", "tones"]) (by decide +kernel) (by with_unfolding_all rfl) ?_
  · walk_at "LK"
  · walk_at "B1"
  intro cs H0 hcl hnd hcn x0 hcc
  obtain ⟨c1, c2, c3, c4, c5, rfl⟩ : ∃ c1 c2 c3 c4 c5, cs = [c1, c2, c3, c4, c5] := by
    match cs, hcl with
    | [c1, c2, c3, c4, c5], _ => exact ⟨_, _, _, _, _, rfl⟩
  have C0 : Cels H H0 [c1, c2, c3, c4, c5] [none, none, none, none, none] := Cels.start hnd hcn hcc
  clear hcl hnd hcn hcc
  simp only [List.zip_cons_cons, List.zip_nil_right]
  repeat walk_at "M"
  -- draw
  refine sl_uptoN (n := 63) (hx _ x0) (by simpa using hz) fun z1 H1 n1 e1 f1 => ?_
  repeat walk_at "M"
  refine call_sum (ns := xs.take 63) (.of (by rw [f1]; simp [vI])) ?_
  repeat walk_at "M"
  refine bin_mod (by decide) ?_
  obtain ⟨dr, hdr⟩ : ∃ n : Nat, ((xs.take 63).sum + 165).fmod 243 = n := Int.eq_ofNat_of_zero_le (Int.fmod_nonneg_of_pos _ (by decide))
  rw [hdr]
  have C1 := C0.ext e1
  refine WSt.cel (c := c1) (by simp) (C1.get (i := 0) rfl rfl) ?_ (by dsimp only; decide +kernel)
  have C2 := C1.set (i := 0) rfl (.int dr)
  have x2 : Ext H (put H1 c1 (.cell (some (.int dr)))) := (x0.trans e1).put _ (C1.new c1 (by simp))
  generalize put H1 c1 (.cell (some (.int dr))) = H2 at C2 x2
  simp only [List.set_cons_succ, List.set_cons_zero] at C2
  clear C0 C1 e1 f1 n1 x0
  -- code
  repeat walk_at "M"
  refine sl_step (ns := xs) (n := 63) (st := 2) (hx _ x2) hz (by decide) fun z2 ms n3 => ?_
  have f3 : put H2 z2 (.list (vI ms)) z2 = some (.list (vI ms)) := put_self _ _ _
  have e3 : Ext H2 (put H2 z2 (.list (vI ms))) := Ext.self n3 _
  generalize put H2 z2 (.list (vI ms)) = H3 at f3 e3
  repeat walk_at "M"
  refine call_sum (.of f3) ?_
  repeat walk_at "M"
  refine bin_mod (by decide) ?_
  obtain ⟨cd, hcd⟩ : ∃ n : Nat, (ms.sum + 31).fmod 480 = n := Int.eq_ofNat_of_zero_le (Int.fmod_nonneg_of_pos _ (by decide))
  have hcd480 : cd < 480 := by
    have := Int.fmod_lt_of_pos (ms.sum + 31) (show (0 : Int) < 480 by decide)
    rw [hcd] at this; omega
  rw [hcd]
  have C3 := C2.ext e3
  refine WSt.cel (c := c2) (by simp) (C3.get (i := 1) rfl rfl) ?_ (by dsimp only; decide +kernel)
  have C4 := C3.set (i := 1) rfl (.int cd)
  have x4 : Ext H (put H3 c2 (.cell (some (.int cd)))) := (x2.trans e3).put _ (C3.new c2 (by simp))
  generalize put H3 c2 (.cell (some (.int cd))) = H4 at C4 x4
  simp only [List.set_cons_succ, List.set_cons_zero] at C4
  clear C2 C3 e3 f3 n3 x2
  have k1 := C4.get (i := 0) rfl rfl
  have k2 := C4.get (i := 1) rfl rfl
  -- ranks
  repeat walk_at "M"
  refine WSs.assignC [("draw", c1)] ["place"] [none] ?_ (fun p hp => by cases List.mem_singleton.mp hp; simp) ?_ ?_
  · show CLooks _ (sScope (at2 68)) ["draw"] _ _
    walk_at "CL"
  case refine_3 => walk_at "SW"
  refine WIt.rangeN 0 5 1 ?_
  repeat walk_at "M"
  intro z5 H5 n5 e5 f5
  have k1 := e5 _ _ k1
  refine ⟨z5, rfl, f5, by decide +kernel, by decide +kernel, CompOk.new (fun i out H' => H' = H5 ∧ out = vN ((List.range i).map fun p => dr / 3 ^ p % 3)) (by decide +kernel) ⟨rfl, rfl⟩ (fun _ _ _ _ => trivial) ?_ ?_⟩
  · rintro p out H' v H6 hp ⟨rfl, rfl⟩ ⟨rfl, rfl⟩
    have hp5 : p < 5 := by rw [show rgCount 0 5 1 = 5 by decide +kernel] at hp; exact hp
    rw [show (0 : Int) + (p : Int) * 1 = (p : Int) by omega]
    repeat walk_at "M"
    refine bin_pow (by omega) (by have : (Builtin.Int.intBits 3 : Int) = 2 := by decide +kernel
                                  rw [this]; omega) ?_
    have h3 : (3 : Int) ^ ((p : Nat) : Int).toNat = ((3 ^ p : Nat) : Int) := by rw [Int.toNat_natCast]; simp
    rw [h3]
    have hpos : 0 < 3 ^ p := Nat.pow_pos (by decide)
    have h81 : 3 ^ p ≤ 3 ^ 4 := Nat.pow_le_pow_right (by decide) (by omega)
    refine bin_divn (i := dr) (j := 3 ^ p) hpos (by omega) ?_
    repeat walk_at "M"
    refine bin_modn (j := 3) (by omega) ?_
    refine ⟨rfl, ?_⟩
    rw [List.range_succ]
    simp only [vN, List.map_append, List.map_cons, List.map_nil]
  rintro out H' d1 H6 ⟨rfl, rfl⟩ nd ed fd
  rw [show rgCount 0 5 1 = 5 by decide +kernel] at fd
  have R6 : H6 d1 = some (.list (vN (ranksOf dr))) := fd
  have C6 := C4.ext (e5.trans ed)
  have x6 := x4.trans (e5.trans ed)
  clear C4 x4 e5 ed fd nd f5 n5 k1 k2
  have k2 := C6.get (i := 1) rfl rfl
  -- turn, hidden
  repeat walk_at "M"
  refine bin_divn (j := 60) (by omega) (by omega) ?_
  repeat walk_at "M"
  refine bin_modn (j := 2) (by omega) ?_
  repeat walk_at "M"
  refine ⟨by show 4 ≤ sizeLine; decide +kernel, fun z7 H7 n7 e7 f7 => ?_⟩
  have k2 := e7 _ _ k2
  repeat walk_at "M"
  refine bin_divn (j := 120) (by omega) (by omega) ?_
  refine item_list (.of f7) (by omega) (by omega) (hid_get (i := cd / 120) (by omega)) ?_
  repeat walk_at "M"
  -- operators
  refine ⟨Dop.callee _, fun _ i => ?_⟩
  cases i
  refine WO.le (operators_ok (k := k) Dop fun r8 H8 n8 e8 f8 => ?_) (by omega)
  have C8 := C6.ext (e7.trans e8)
  have x8 := x6.trans (e7.trans e8)
  have R8 := e8 _ _ (e7 _ _ R6)
  refine WSt.cel (c := c3) (by simp) (C8.get (i := 2) rfl rfl) ?_ (by dsimp only; decide +kernel)
  have C9 := C8.set (i := 2) rfl (.ref r8)
  have R9 := C8.keep (c := c3) (by simp) R8 (o := .cell (some (.ref r8)))
  have O9 := C8.keep (c := c3) (by simp) f8 (o := .cell (some (.ref r8)))
  have x9 : Ext H (put H8 c3 (.cell (some (.ref r8)))) := x8.put _ (C8.new c3 (by simp))
  generalize put H8 c3 (.cell (some (.ref r8))) = H9 at C9 R9 O9 x9
  simp only [List.set_cons_succ, List.set_cons_zero] at C9
  clear C6 C8 R6 R8 e7 e8 f7 f8 n7 n8 k2 x6 x8
  have k2 := C9.get (i := 1) rfl rfl
  have k3 := C9.get (i := 2) rfl rfl
  -- letters
  have hli : ∀ k, k < 3 → (vS ops)[((li cd k : Nat) : Int).toNat]? = some (.str (ops.getD (li cd k) ⟨#[]⟩)) := fun k hk => by
    have h29 := li_lt (cd := cd) hk
    rw [Int.toNat_natCast, List.getElem?_map, List.getD_eq_getElem?_getD, List.getElem?_eq_getElem (by rw [ops_len]; exact h29)]; rfl
  have hbits : ∀ k, k < 3 → Builtin.Int.intBits (k : Nat) ≤ 64 := by decide +kernel
  repeat walk_at "M"
  refine WSs.assign ?_ (by walk_at "SW")
  refine WE.comp [("code", c2), ("operators", c3)] ["k"] [none] ?_ ?_ ?_
  · show CLooks _ (sScope (at2 68)) ["code", "operators"] _ _
    walk_at "CL"
  · intro p hp
    simp only [List.mem_cons, List.not_mem_nil, or_false] at hp ⊢
    rcases hp with rfl | rfl <;> simp
  refine WIt.rangeN 0 3 1 ?_
  repeat walk_at "M"
  intro z10 H10 n10 e10 f10
  have k2 := e10 _ _ k2
  have k3 := e10 _ _ k3
  have O10 := e10 _ _ O9
  refine ⟨z10, rfl, f10, by decide +kernel, by decide +kernel, CompOk.new (fun i out H' => H' = H10 ∧ out = vS ((List.range i).map fun k => ops.getD (li cd k) ⟨#[]⟩)) (by decide +kernel) ⟨rfl, rfl⟩ (fun _ _ _ _ => trivial) ?_ ?_⟩
  · rintro p out H' v H11 hp ⟨rfl, rfl⟩ ⟨rfl, rfl⟩
    have hp3 : p < 3 := by rw [show rgCount 0 3 1 = 3 by decide +kernel] at hp; exact hp
    rw [show (0 : Int) + (p : Int) * 1 = (p : Int) by omega]
    repeat walk_at "M"
    refine bin_modn (j := 5) (by omega) ?_
    repeat walk_at "M"
    refine bin_divn (j := 5) (by omega) (by omega) ?_
    repeat walk_at "M"
    refine bin_modn (j := 12) (by omega) ?_
    repeat walk_at "M"
    refine bin_mul (IntMulOk.of_right (hbits p hp3)) ?_
    repeat walk_at "M"
    have e : ((cd % 5 : Nat) : Int) + (1 + ((cd / 5 % 12 : Nat) : Int)) * (p : Int) = ((li cd p : Nat) : Int) := by unfold li; simp
    rw [e]
    have h29 := li_lt (cd := cd) hp3
    refine item_list (.of O10) (by omega) (by omega) (hli p hp3) ?_
    refine ⟨rfl, ?_⟩
    rw [List.range_succ]
    simp only [vS, List.map_append, List.map_cons, List.map_nil]
  rintro out H' r11 H11 ⟨rfl, rfl⟩ nd ed fd
  rw [show rgCount 0 3 1 = 3 by decide +kernel] at fd
  have C11 := C9.ext (e10.trans ed)
  have x11 := x9.trans (e10.trans ed)
  have R11 := ed _ _ (e10 _ _ R9)
  refine WSt.cel (c := c4) (by simp) (C11.get (i := 3) rfl rfl) ?_ (by dsimp only; decide +kernel)
  have C12 := C11.set (i := 3) rfl (.ref r11)
  have R12 := C11.keep (c := c4) (by simp) R11 (o := .cell (some (.ref r11)))
  have L12 := C11.keep (c := c4) (by simp) fd (o := .cell (some (.ref r11)))
  have x12 : Ext H (put H11 c4 (.cell (some (.ref r11)))) := x11.put _ (C11.new c4 (by simp))
  generalize put H11 c4 (.cell (some (.ref r11))) = H12 at C12 R12 L12 x12
  simp only [List.set_cons_succ, List.set_cons_zero] at C12
  clear C9 C11 R9 R11 O9 O10 e10 ed fd nd n10 f10 k2 k3 x9 x11
  have k4 := C12.get (i := 3) rfl rfl
  -- tones
  have hls3 : ∀ i ∈ (List.range 3).map (li cd), i < 29 := fun i hi => by
    obtain ⟨k, hk, rfl⟩ := List.mem_map.mp hi
    exact li_lt (List.mem_range.mp hk)
  have hL12 : H12 r11 = some (.list (vS (((List.range 3).map (li cd)).map fun i => ops.getD i ⟨#[]⟩))) := by rw [L12, List.map_map]; rfl
  repeat walk_at "M"
  refine ⟨mty_str, ?_⟩
  repeat walk_at "M"
  refine call_join (.of hL12) (joinOk_ops hls3 (by simp)) ?_
  rw [join_ops]
  repeat walk_at "M"
  refine ⟨Dcu.callee _, fun _ i => ?_⟩
  cases i
  refine WO.le (cut_ok (k := k) Dcu TB CT md hls3 (by simp) fun H13 r13 x13 f13 => ?_) (by omega)
  have C13 := C12.ext x13
  refine WSt.cel (c := c5) (by simp) (C13.get (i := 4) rfl rfl) ?_ (by dsimp only; decide +kernel)
  have C14 := C13.set (i := 4) rfl (.ref r13)
  have R14 := C13.keep (c := c5) (by simp) (x13 _ _ R12) (o := .cell (some (.ref r13)))
  have L14 := C13.keep (c := c5) (by simp) (x13 _ _ L12) (o := .cell (some (.ref r13)))
  have T14 := C13.keep (c := c5) (by simp) f13 (o := .cell (some (.ref r13)))
  have x14 : Ext H (put H13 c5 (.cell (some (.ref r13)))) := (x12.trans x13).put _ (C13.new c5 (by simp))
  generalize put H13 c5 (.cell (some (.ref r13))) = H14 at C14 R14 L14 T14 x14
  simp only [List.set_cons_succ, List.set_cons_zero] at C14
  clear C12 C13 R12 L12 hL12 x12 x13 f13 k4
  have k4 := C14.get (i := 3) rfl rfl
  have k5 := C14.get (i := 4) rfl rfl
  -- drawn
  have hlr : ∀ rk, rk < 3 → (vS ((List.range 3).map fun k => ops.getD (li cd k) ⟨#[]⟩))[((rk : Nat) : Int).toNat]? = some (.str (ops.getD (li cd rk) ⟨#[]⟩)) := fun rk hk => by
    rw [Int.toNat_natCast, List.getElem?_map, List.getElem?_map, List.getElem?_range hk]; rfl
  repeat walk_at "M"
  refine ⟨mty_str, ?_⟩
  repeat walk_at "M"
  refine WE.comp [("letters", c4)] ["rank"] [none] ?_ (fun p hp => by cases List.mem_singleton.mp hp; simp) ?_
  · show CLooks _ (sScope (at2 68)) ["letters"] _ _
    walk_at "CL"
  refine WIt.list ?_
  repeat walk_at "M"
  refine ⟨d1, _, rfl, R14, CompOk.new (fun i out H' => H' = H14 ∧ out = vS (((ranksOf dr).take i).map fun r => ops.getD (li cd r) ⟨#[]⟩)) (by rw [List.length_map, ranks_len]; decide +kernel) ⟨rfl, rfl⟩ (by rintro i v H' ⟨rfl, _⟩; exact R14) ?_ ?_⟩
  · rintro i out H' v H15 hi ⟨rfl, rfl⟩ ⟨hit, rfl⟩
    rw [vN, List.getElem?_map, Option.map_eq_some_iff] at hit
    obtain ⟨rk, hrk, rfl⟩ := hit
    have hrk3 := ranks_get hrk
    repeat walk_at "M"
    refine item_list (.of L14) (by omega) (by omega) (hlr rk hrk3) ?_
    refine ⟨rfl, ?_⟩
    rw [List.take_add_one, hrk]
    simp only [vS, List.map_append, Option.toList, List.map_cons, List.map_nil]
  rintro out H' r15 H15 ⟨rfl, rfl⟩ nd e15 f15
  rw [show (vN (ranksOf dr)).length = (ranksOf dr).length by simp, List.take_length] at f15
  have hls5 : ∀ i ∈ (ranksOf dr).map (li cd), i < 29 := fun i hi => by
    obtain ⟨k, hk, rfl⟩ := List.mem_map.mp hi
    exact li_lt (ranks_lt hk)
  have hL15 : H15 r15 = some (.list (vS (((ranksOf dr).map (li cd)).map fun i => ops.getD i ⟨#[]⟩))) := by rw [f15, List.map_map]; rfl
  repeat walk_at "M"
  refine call_join (.of hL15) (joinOk_ops hls5 (by rw [List.length_map, ranks_len]; decide)) ?_
  rw [join_ops]
  repeat walk_at "M"
  refine ⟨Dcu.callee _, fun _ i => ?_⟩
  cases i
  refine WO.le (cut_ok (k := k) Dcu TB CT md hls5 (by rw [List.length_map, ranks_len]; decide) fun H16 r16 x16 f16 => ?_) (by omega)
  have e16 := e15.trans x16
  have C16 := C14.ext e16
  have R16 := e16 _ _ R14
  have x6' := x14.trans e16
  have hdr' : ((ranksOf dr).map (li cd)).map code = (ranksOf dr).map (tau code cd) := by
    rw [List.map_map]
    exact List.map_congr_left fun r hr => (tau_code (ranks_lt hr)).symm
  have htn : ((List.range 3).map (li cd)).map code = (List.range 3).map (tau code cd) := by
    rw [List.map_map]
    exact List.map_congr_left fun r hr => (tau_code (List.mem_range.mp hr)).symm
  have T16 : H16 r13 = some (.list (vN ((List.range 3).map (tau code cd)))) := by rw [← htn]; exact e16 _ _ T14
  have D16 : H16 r16 = some (.list (vN ((ranksOf dr).map (tau code cd)))) := by rw [← hdr']; exact f16
  have hτ := tau_inc G cd
  generalize hτe : tau code cd = τ at *
  have k5 := e16 _ _ k5
  clear C14 R14 L14 T14 hL15 f15 f16 e15 x16 e16 x14 nd k4 hlr hls3 hls5 hdr' htn hli hbits
  repeat walk_at "M"
  refine WT.or ?_
  repeat walk_at "M"
  refine WE.comp [("tones", c5)] ["rank"] [none] ?_ (fun p hp => by cases List.mem_singleton.mp hp; simp) ?_
  · show CLooks _ (sScope (at2 68)) ["tones"] _ _
    walk_at "CL"
  have htg : ∀ rk, rk < 3 → ((List.range 3).map τ)[rk]? = some (τ rk) := fun rk hk => by rw [List.getElem?_map, List.getElem?_range hk]; rfl
  refine WIt.list ?_
  repeat walk_at "M"
  refine ⟨d1, _, rfl, R16, CompOk.new (fun i out H' => H' = H16 ∧ out = vN (((ranksOf dr).take i).map τ)) (by rw [List.length_map, ranks_len]; decide +kernel) ⟨rfl, rfl⟩ (by rintro i v H' ⟨rfl, _⟩; exact R16) ?_ ?_⟩
  · rintro i out H' v H17 hi ⟨rfl, rfl⟩ ⟨hit, rfl⟩
    rw [vN, List.getElem?_map, Option.map_eq_some_iff] at hit
    obtain ⟨rk, hrk, rfl⟩ := hit
    have hrk3 := ranks_get hrk
    repeat walk_at "M"
    refine item_nat T16 (htg rk hrk3) (by simp) ?_
    refine ⟨rfl, ?_⟩
    rw [List.take_add_one, hrk]
    simp only [vN, List.map_append, Option.toList, List.map_cons, List.map_nil]
  rintro out H' r17 H17 ⟨rfl, rfl⟩ nd e17 f17
  rw [show (vN (ranksOf dr)).length = (ranksOf dr).length by simp, List.take_length] at f17
  refine ne_nats (e17 _ _ D16) f17 ?_
  repeat walk_at "M"
  refine ⟨fun hc => by simp at hc, fun _ => ?_⟩
  have k5 := e17 _ _ k5
  have T17 := e17 _ _ T16
  repeat walk_at "M"
  refine call_sorted (ns := ((List.range 3).map τ).map Int.ofNat) (.of (by rw [T17, vN_vI])) (by simp) fun ms' hp hs => ?_
  have hms : ms' = ((List.range 3).map τ).map Int.ofNat := by
    refine perm_sorted hp hs ?_
    have h1 := hτ 0 1 (by decide)
    have h2 := hτ 1 2 (by decide)
    show [(τ 0 : Int), (τ 1 : Int), (τ 2 : Int)].Pairwise (· ≤ ·)
    simp only [List.pairwise_cons, List.mem_cons, List.not_mem_nil, or_false, forall_eq_or_imp, forall_eq]
    refine ⟨⟨by omega, by omega⟩, by omega, fun _ h => h.elim, .nil⟩
  intro r18 H18 n18 e18 f18
  rw [hms, ← vN_vI] at f18
  refine ne_nats (e18 _ _ T17) f18 ?_
  repeat walk_at "M"
  refine ⟨fun hc => by simp at hc, fun _ => ?_⟩
  have e1618 := e17.trans e18
  have C18 := C16.ext e1618
  have T18 := e18 _ _ T17
  have D18 := e1618 _ _ D16
  have x18 := x6'.trans e1618
  have k5 := e18 _ _ k5
  clear C16 T16 T17 D16 x6' e17 e18 e1618 f17 f18 n18 nd hp hs hms R16
  repeat walk_at "M"
  -- laid
  refine ⟨Dla.callee _, fun _ i => ?_⟩
  cases i
  have htn2 : cd / 60 % 2 < 2 := Nat.mod_lt _ (by decide)
  have hcd4 : cd / 120 < 4 := by omega
  generalize cd / 60 % 2 = tn at htn2 ⊢
  generalize cd / 120 = hd at hcd4 ⊢
  obtain ⟨rows, grown, rows', told, l1, l2, l3, l4, l5⟩ := lawB_ok dr htn2
  obtain ⟨m1, m2⟩ := laid_tau hτ l1
  refine WO.le (laid_ok (k := k) Dla b gbr D18 (by rw [List.length_map, ranks_len]; decide) m1 (by rw [m2, List.length_map, l2]; decide) fun H19 t19 r19 g19 x19 f19 fr fg => ?_) (by omega)
  rw [m2] at fr
  refine WA.tup f19 ?_
  repeat walk_at "M"
  refine WSs.for (WIt.list ?_)
  repeat walk_at "M"
  refine ⟨by show 3 ≤ sizeLine; decide +kernel, fun z20 H20 n20 e20 f20 => ?_⟩
  have e1920 := x19.trans e20
  have T20 := hT.ext (x18.trans e1920)
  obtain ⟨oT, hoT⟩ := T20.raw
  have k5 := e1920 _ _ k5
  have N20 := e1920 _ _ T18
  have D20 := e1920 _ _ D18
  have U20 := e20 _ _ fr
  have G20 := e20 _ _ fg
  have X20 : ExtT T H H20 := (x18.trans e1920).toT
  have htg : ∀ rk, rk < 3 → ((List.range 3).map τ)[rk]? = some (τ rk) := fun rk hk => by rw [List.getElem?_map, List.getElem?_range hk]; rfl
  clear C18 T18 D18 x18 e1920 x19 e20 n20 f19 fr fg
  refine ⟨z20, _, rfl, f20, fun i vars H' => ExtT T H20 H' ∧ TabOk T q lamPos H' ∧ ∃ (rw_ rd : Addr) (o1 : Option V), H' rw_ = some (.list (vN ((((steps tn).take i).foldl stepW (ranksOf dr)).map τ))) ∧ H' rd = some (.list (vN ((((steps tn).take i).foldl stepD rows.reverse.flatten).map τ))) ∧ vars = [some (.ref l), some (.ref d1), some (.int (tn : Nat)), some (.str (hids hd)), some (.ref r16), some (.ref rw_), some (.ref rd), some (.ref g19), o1, none, none], ?_, ?_, ?_, ?_⟩
  · exact ⟨ExtT.refl _ _, T20, r16, r19, none, D20, U20, rfl⟩
  · rintro i v H' ⟨xE, _⟩; exact xE.list hoT f20
  · rintro i vars H' v H21 hi ⟨xE, TT, rw_, rd, o1, W, U, rfl⟩ ⟨hit, rfl⟩
    obtain ⟨s, hs2, hsi, rfl⟩ : ∃ s, s < 2 ∧ (steps tn)[i]? = some s ∧ v = .int (s : Nat) := by
      have h1 : (1 : Int) - (tn : Int) = ((1 - tn : Nat) : Int) := by omega
      rw [h1] at hit
      match i, hi with
      | 0, _ => exact ⟨tn, htn2, rfl, (Option.some.inj hit).symm⟩
      | 1, _ => exact ⟨1 - tn, by omega, rfl, (Option.some.inj hit).symm⟩
      | 2, _ => exact ⟨tn, htn2, rfl, (Option.some.inj hit).symm⟩
    have k5 := xE.cell hoT k5
    have N := xE.list hoT N20
    have hfw : ((steps tn).take (i + 1)).foldl stepW (ranksOf dr) = stepW (((steps tn).take i).foldl stepW (ranksOf dr)) s := by rw [List.take_add_one, hsi, List.foldl_append]; rfl
    have hfd : ((steps tn).take (i + 1)).foldl stepD rows.reverse.flatten = stepD (((steps tn).take i).foldl stepD rows.reverse.flatten) s := by rw [List.take_add_one, hsi, List.foldl_append]; rfl
    repeat walk_at "M"
    refine item_nat N (htg s (by omega)) (by simp) ?_
    repeat walk_at "M"
    rw [show ((s : Nat) : Int) + 1 = ((s + 1 : Nat) : Int) by omega]
    refine item_nat N (htg (s + 1) (by omega)) (by simp) ?_
    repeat walk_at "M"
    refine ⟨Dx.callee _, fun _ i => ?_⟩
    cases i
    refine exch_ok (k := k) Dx M W (by rw [List.length_map, foldW_len, ranks_len]) hcd4 TT fun H22 r22 x22 T22 f22 => ?_
    rw [exP_map hτ] at f22
    have f22' : H22 r22 = some (.list (vN ((((steps tn).take (i + 1)).foldl stepW (ranksOf dr)).map τ))) := by rw [hfw]; exact f22
    obtain ⟨oT2, hoT2⟩ := TT.raw
    have k5 := x22.cell hoT2 k5
    have N2 := x22.list hoT2 N
    have U2 := x22.list hoT2 U
    repeat walk_at "M"
    rw [show (1 : Int) - ((s : Nat) : Int) = ((1 - s : Nat) : Int) by omega]
    refine item_nat N2 (htg (1 - s) (by omega)) (by simp) ?_
    repeat walk_at "M"
    rw [show (2 : Int) - ((s : Nat) : Int) = ((2 - s : Nat) : Int) by omega]
    refine item_nat N2 (htg (2 - s) (by omega)) (by simp) ?_
    repeat walk_at "M"
    refine ⟨Ddu.callee _, fun _ i => ?_⟩
    cases i
    refine WO.le (due_ok (k := k) Ddu b U2 (by rw [List.length_map, foldD_len, l2]; decide) fun H23 r23 x23 f23 => ?_) (by omega)
    rw [dueP_map hτ] at f23
    repeat walk_at "M"
    exact ⟨xE.trans (x22.trans x23.toT), T22.ext x23, r22, r23, _, x23 _ _ f22', by rw [hfd]; exact f23, rfl⟩
  rintro vars H' ⟨xE, TT, rw_, rd, o1, W, U, rfl⟩
  have G := xE.list hoT G20
  have XF := X20.trans xE
  change H' rw_ = some (.list (vN (((steps tn).foldl stepW (ranksOf dr)).map τ))) at W
  change H' rd = some (.list (vN (((steps tn).foldl stepD rows.reverse.flatten).map τ))) at U
  clear k5 N20 D20 U20 G20 X20 T20 hoT f20 oT xE
  obtain ⟨m3, m4⟩ := laid_tau hτ l3
  have hl5 : rows'.reverse.flatten.length = 5 := by rw [l4, foldD_len]; exact l2
  repeat walk_at "M"
  refine ⟨Dla.callee _, fun _ i => ?_⟩
  cases i
  refine WO.le (laid_ok (k := k) Dla b gbr W (by rw [List.length_map, foldW_len, ranks_len]; decide) m3 (by rw [m4, List.length_map, hl5]; decide) fun H24 t24 r24 g24 x24 f24 fr fg => ?_) (by omega)
  rw [m4, l4] at fr
  rw [l5] at fg
  refine WA.tup f24 ?_
  repeat walk_at "M"
  refine WE.and ?_
  repeat walk_at "M"
  refine eq_nats fr (x24 _ _ U) ?_
  rw [decide_eq_true rfl]
  repeat walk_at "M"
  refine eq_nats fg (x24 _ _ G) ?_
  rw [decide_eq_true rfl]
  repeat walk_at "M"
  exact h _ (XF.trans x24.toT)
end
section
/-! the base: what the top left, told by a fragment of the heap -/
def fdIn (K : Frag) (a : Addr) : Option FuncData := match K.lookup a with | some ⟨_, _, .func fd, _⟩ => some fd | _ => none
def cdName (K : Frag) (c : Addr) : Option Str := match K.lookup c with | some ⟨_, _, Data.fields vs, _⟩ => (match (vs[1]? : Option Value) with | some (Value.str q _) => some q | _ => none) | _ => none
abbrev FdT : Type := Arguments × FuncBody × Scope × Addr × List (Str × Addr) × Value × Value × Addr × Value
def fdT (fd : FuncData) : FdT := (fd.params, fd.body, fd.scope, fd.globals, fd.closure, fd.defaults, fd.kwdefaults, fd.builtins, fd.code)
structure FdOk (K : Frag) (a c : Addr) (st : Stmt) (dv kdv : Value) : Prop where
  fd : (fdIn K a).map fdT = some (sArgs st, .stmts (sBody st), sScope st, mainGlobals, [], dv, kdv, builtinsNs, .ref c)
  cd : cdName K c = (fdIn K a).map (·.qualname)
theorem defAt_of {B : Base} {K : Frag} {a c : Addr} {st : Stmt} {dv kdv : Value} {g : Bool} (hB : ∀ a o, K.lookup a = some o → B.obj a = some o) (h : FdOk K a c st dv kdv) (hg : (sScope st).isGenerator = g) (hco : (sScope st).isCoroutine = false) (hk : (sScope st).kind = .function) :
    DefAt B a (sArgs st) (sBody st) (sScope st) dv kdv g := by
  obtain ⟨h1, h2⟩ := h
  cases e : fdIn K a with
  | none => rw [e] at h1; cases h1
  | some fd =>
    rw [e] at h1 h2
    have e1 : fdT fd = _ := Option.some.inj h1
    have e2 : cdName K c = some fd.qualname := h2
    unfold fdIn at e
    unfold cdName at e2
    split at e
    · rename_i cls d fd' sl hl
      cases e
      split at e2
      · rename_i cls' d' vs sl' hl'
        split at e2
        · rename_i q t hq
          cases e2
          simp only [fdT, Prod.mk.injEq] at e1
          obtain ⟨p1, p2, p3, p4, p5, p6, p7, p8, p9⟩ := e1
          exact ⟨_, _, hB _ _ hl, rfl, p1, p2, p3, p4, p5, p6, p7, p8, hg, hco, hk, c, _, vs, t, p9, hB _ _ hl', rfl, hq⟩
        · cases e2
      · cases e2
    · cases e
theorem mg_no {K : Frag} {h : Heap} {mg : Str → Option Value} {n : Str} (X : K.In h) (G : h.Ns mainGlobals mg) (e : nsIn K mainGlobals n = some none) : mg n = none := by
  obtain ⟨o, es, ep, ho, hd, _, hf⟩ := G
  unfold nsIn at e
  split at e
  · rename_i c d es' n' sl q
    have := X _ _ q
    rw [ho] at this
    cases this
    cases hd
    rw [← hf n]
    split at e
    · cases e
    · rename_i hfi
      unfold nsFind findBy
      rw [← Array.find?_toList, hfi]; rfl
  · cases e
def hashOf (P : Params) (e : DictEntry) : Int := match e.key with | .str x _ => PyData.keyHash P x | _ => e.hash
def isKey (e : DictEntry) : Bool := match e.key with | .str _ _ => true | _ => false
theorem keysLit_of {P : Params} : ∀ {l : List DictEntry}, l.map (·.hash) = l.map (hashOf P) → l.all isKey = true → KeysLit P l
  | [], _, _ => trivial
  | e :: r, h, g => by
    rw [List.map_cons, List.map_cons] at h
    injection h with h1 h2
    rw [List.all_cons, Bool.and_eq_true] at g
    refine ⟨?_, keysLit_of h2 g.2⟩
    have g1 := g.1
    unfold isKey at g1
    unfold hashOf at h1
    split at g1
    · rename_i x t hx
      rw [hx] at h1
      exact ⟨x, t, hx, h1⟩
    · cases g1
def esOf (K : Frag) (d : Addr) : Array DictEntry := match K.lookup d with | some ⟨_, _, .dict es _, _⟩ => es | _ => #[]
def epOf (K : Frag) (d : Addr) : Nat := match K.lookup d with | some ⟨_, _, .dict _ n, _⟩ => n | _ => 0
def tabVal (K : Frag) (d : Addr) (y : Str) : Option Value := findBy Value.isStrOf (esOf K d) y
def tabCode (K : Frag) (d : Addr) (y : Str) : Nat := match tabVal K d y with | some (.int n _) => n.toNat | _ => 0
def isNat (e : DictEntry) : Bool := match e.val with | .int n _ => decide (0 ≤ n) | _ => false
theorem tabCode_ok {K : Frag} {d : Addr} (h : (esOf K d).toList.all isNat = true) (y : Str) : (∀ z, tabVal K d y = some z → ∃ t, z = .int (tabCode K d y) t) ∧ (tabVal K d y = none → tabCode K d y = 0) := by
  refine ⟨fun z hz => ?_, fun hz => by unfold tabCode; rw [hz]⟩
  have hz' := hz
  unfold tabVal findBy at hz'
  rw [Option.map_eq_some_iff] at hz'
  obtain ⟨e, he, rfl⟩ := hz'
  have hm : e ∈ (esOf K d).toList := by
    rw [← Array.find?_toList] at he
    exact List.mem_of_find?_eq_some he
  have := List.all_eq_true.mp h e hm
  unfold isNat at this
  split at this
  · rename_i n t hv
    refine ⟨t, ?_⟩
    unfold tabCode
    rw [hz, hv]
    have : 0 ≤ n := of_decide_eq_true this
    show Value.int n t = .int ((n.toNat : Nat) : Int) t
    rw [Int.toNat_of_nonneg this]
  · cases this
/-- the base of a heap, without the script and without a table of codes -/
def baseOf (prog : Program) (w : World) (h : Heap) (S T : Addr) (mg mb : Str → Option Value) (hg : h.Ns mainGlobals mg) (hb : h.Ns builtinsNs mb) (hn : h.NoLimit) (n1 : ¬ (mainGlobals = S ∨ mainGlobals = T)) (n2 : ¬ (builtinsNs = S ∨ builtinsNs = T)) (n3 : ¬ (cStatics = S ∨ cStatics = T)) : Base where
  prog := prog
  w := w
  obj a := if a = S ∨ a = T then none else h.get? a
  mg := mg
  mb := mb
  limit h' x := by
    obtain ⟨mc, ⟨o, es, ep, e, r⟩, q⟩ := hn
    exact ⟨mc, ⟨o, es, ep, x _ _ (by rw [if_neg n3]; exact e), r⟩, q⟩
  glob h' x := by
    obtain ⟨o, es, ep, e, r⟩ := hg
    exact ⟨o, es, ep, x _ _ (by rw [if_neg n1]; exact e), r⟩
  blt h' x := by
    obtain ⟨o, es, ep, e, r⟩ := hb
    exact ⟨o, es, ep, x _ _ (by rw [if_neg n2]; exact e), r⟩
theorem tab_of {B : Base} {K : Frag} {d : Addr} {n : Nat} (hB : ∀ a o, K.lookup a = some o → B.obj a = some o) (hd : (d == sysModules) = false) (hl : K.lookup d = some ⟨.type "dict", none, .dict (esOf K d) n, #[]⟩) (hk : KeysLit B.w.params (esOf K d).toList) : Tab B d (tabVal K d) :=
  ⟨hd, fun h x => mapOf_K (K := K) (fun a o e => x a o (hB a o e)) hl hk⟩
end
section
/-! what is looked at behind the top, told by one equation -/
structure DR where
  n : Nat
  name : Str
  a : Addr
  c : Addr
  dv : Value
  kdv : Value
def DR.seen (K : Frag) (d : DR) : Option (Option Value) × Option FdT × Bool := (nsIn K mainGlobals d.name, (fdIn K d.a).map fdT, decide (cdName K d.c = (fdIn K d.a).map (·.qualname)))
def DR.want (d : DR) : Option (Option Value) × Option FdT × Bool := (some (some (.ref d.a)), some (sArgs (at2 d.n), .stmts (sBody (at2 d.n)), sScope (at2 d.n), mainGlobals, [], d.dv, d.kdv, builtinsNs, .ref d.c), true)
def fragAt (as : List Addr) (s : Shared) : Frag := as.filterMap fun a => (s.heap.get? a).map fun o => (a, o)
theorem lookup_map : ∀ {as : List Addr} {f : Addr → Option Obj} {a : Addr} {o : Obj}, (as.filterMap fun a => (f a).map fun o => (a, o)).lookup a = some o → a ∈ as ∧ f a = some o
  | [], _, _, _, h => nomatch h
  | b :: r, f, a, o, h => by
    rw [List.filterMap_cons] at h
    cases q : f b with
    | none =>
      rw [q] at h
      obtain ⟨h1, h2⟩ := lookup_map (as := r) h
      exact ⟨.tail _ h1, h2⟩
    | some x =>
      rw [q] at h
      have h' : (match a == b with | true => some x | false => List.lookup a (r.filterMap fun a => (f a).map fun o => (a, o))) = some o := h
      cases e : a == b with
      | true =>
        rw [e] at h'
        rw [eq_of_beq e]
        exact ⟨.head _, by rw [q]; exact h'⟩
      | false =>
        rw [e] at h'
        obtain ⟨h1, h2⟩ := lookup_map (as := r) h'
        exact ⟨.tail _ h1, h2⟩
theorem fragAt_in {as : List Addr} {s : Shared} : (fragAt as s).In s.heap := fun _ _ e => (lookup_map e).2
theorem map_at {α β : Type} {f g : α → β} : ∀ {l : List α}, l.map f = l.map g → ∀ {i : Nat} {x : α}, l[i]? = some x → f x = g x
  | [], _, _, _, h => nomatch h
  | a :: r, h, i, x, hx => by
    rw [List.map_cons, List.map_cons] at h
    injection h with h1 h2
    cases i with
    | zero => cases hx; exact h1
    | succ i => exact map_at h2 (i := i) (by simpa using hx)
def dictAt (K : Frag) (a : Addr) : Option (Value × Option Addr × Array (Option Value)) := match K.lookup a with | some ⟨c, d, .dict _ _, sl⟩ => some (c, d, sl) | _ => none
theorem dictAt_of {K : Frag} {a : Addr} {c : Value} {d : Option Addr} {sl : Array (Option Value)} (h : dictAt K a = some (c, d, sl)) : K.lookup a = some ⟨c, d, .dict (esOf K a) (epOf K a), sl⟩ := by
  unfold dictAt at h
  split at h
  · rename_i c' d' es n sl' q
    cases h
    have e1 : esOf K a = es := by unfold esOf; rw [q]
    have e2 : epOf K a = n := by unfold epOf; rw [q]
    rw [e1, e2]; exact q
  · cases h
def keyOf (e : DictEntry) : Str := match e.key with | .str x _ => x | _ => ⟨#[]⟩
theorem hashes_of {P : Params} {l : List DictEntry} {ks : List Str} (h1 : l.map (·.hash) = ks.map (PyData.keyHash P)) (h2 : l.map keyOf = ks) (h3 : l.all isKey = true) : l.map (·.hash) = l.map (hashOf P) := by
  rw [h1, ← h2, List.map_map]
  refine List.map_congr_left fun e he => ?_
  have := List.all_eq_true.mp h3 e he
  unfold isKey at this
  show PyData.keyHash P (keyOf e) = hashOf P e
  unfold hashOf keyOf
  split at this
  · rename_i x t hx; first | rfl | rw [hx]
  · cases this
def defs2 : List DR := [⟨1, "_iter_escaped_chars", 21, 20, .none, .none⟩, ⟨2, "_strip_quoted_realnames", 28, 27, .none, .none⟩, ⟨3, "_check_parenthesis", 35, 34, .none, .none⟩, ⟨5, "bisect_right", 44, 43, .ref 36, .ref 37⟩, ⟨6, "bisect_left", 53, 52, .ref 45, .ref 46⟩, ⟨58, "ISEOF", 63, 62, .none, .none⟩, ⟨60, "_law_operators", 70, 69, .none, .none⟩, ⟨61, "_law_cut", 77, 76, .none, .none⟩, ⟨62, "_law_written", 84, 83, .none, .none⟩, ⟨63, "_law_taken", 91, 90, .none, .none⟩, ⟨64, "_law_moved", 96, 95, .none, .none⟩, ⟨65, "_law_exchanged", 103, 102, .none, .none⟩, ⟨66, "_law_laid", 108, 107, .none, .none⟩, ⟨67, "_law_due", 115, 114, .none, .none⟩, ⟨68, "law", 120, 119, .none, .none⟩]
def no2 : List Str := ["len", "sum", "range", "enumerate", "sorted", "list"]
def as2 : List Addr := mainGlobals :: [4, 20, 21, 27, 28, 34, 35, 36, 37, 43, 44, 45, 46, 52, 53, 54, 62, 63, 69, 70, 76, 77, 83, 84, 90, 91, 95, 96, 102, 103, 107, 108, 114, 115, 119, 120]
def kObj (P : Params) (t : Tok) : Obj := { cls := .type "dict", data := .dict #[{ hash := PyData.keyHash P "key", key := .str "key" t, val := .none }] 1 }
def dObj (t : Tok) : Obj := { cls := .type "tuple", data := .seq #[.int 0 t, .none] }
def endB (K : Frag) : Bool := match nsIn K mainGlobals "ENDMARKER" with | some (some (.int i _)) => decide (i = 0) | _ => false
/-- a code object's head -/
def hdOk (K : Frag) (c P : Addr) : Bool := match K.lookup c with
  | some ⟨.type n, _, .fields vs, _⟩ => decide (n = "code") && (match (vs[11]? : Option Value) with | some (Value.ref p) => decide (p = P) | _ => false) && (match (vs.getD 18 .none : Value) with | Value.str _ _ => true | _ => false) && (match (vs.getD 7 .none : Value) with | Value.int _ _ => true | _ => false) && (match (vs.getD 9 .none : Value) with | Value.bool _ => true | _ => false) && (match (vs.getD 10 .none : Value) with | Value.int _ _ => true | _ => false)
  | _ => false
def codeK (K : Frag) (i : Nat) : Nat := tabCode K 54 ⟨(oc i).toArray⟩
def opsB (K : Frag) : Bool := (List.range 29).all fun i => (tabVal K 54 ⟨(oc i).toArray⟩).isSome
def incB (K : Frag) : Bool := (List.range 29).all fun j => (List.range j).all fun i => decide (codeK K i < codeK K j)
def modObj : Obj := { cls := .type "module", dict := some builtinsNs }
abbrev Obs2 : Type := Nat × List (Option (Option Value) × Option FdT × Bool) × List (Option (Option Value)) × List (Option (Option Value)) × Option (Value × Option Addr × Array (Option Value)) × List Int × List Str × List Bool × List (Option Obj) × Option Str × Option Obj
def obsK2 (K : Frag) (n : Nat) (T : Option Obj) : Obs2 :=
  (n, defs2.map (DR.seen K), no2.map (nsIn K mainGlobals), [nsIn K mainGlobals "EXACT_TOKEN_TYPES", nsIn K mainGlobals "__builtins__"], dictAt K 54, (esOf K 54).toList.map (·.hash), (esOf K 54).toList.map keyOf,
   [(esOf K 54).toList.all isKey, (esOf K 54).toList.all isNat, endB K, hdOk K 95 93, opsB K, incB K], [K.lookup 36, K.lookup 37, K.lookup 45, K.lookup 46, K.lookup 4], (fdIn K 96).map (·.qualname), T)
def obs2 (s : Shared) : Obs2 := obsK2 (fragAt as2 s) s.heap.objs.size (s.heap.get? 93)
def val2 (w : World) : Obs2 :=
  (121, defs2.map DR.want, no2.map (fun _ => some none), [some (some (.ref 54)), some (some (.ref 4))], some (.type "dict", none, #[]), keyL.map (PyData.keyHash w.params), keyL,
   [true, true, true, true, true, true], [some (dObj 223), some (kObj w.params 224), some (dObj 237), some (kObj w.params 238), some modObj], some "_law_moved", some (tabObj #[]))
end
set_option maxHeartbeats 0
section
def q2 : Program := view PySem.Challenge.pw_sl0019_02 ([1, 2, 3] ++ (List.range 51).map (· + 8) ++ [60, 61, 62, 63, 64, 65, 66, 67, 68])
def loose2 : List Str := ["bisect_right", "bisect_left", "EXACT_TOKEN_TYPES"]
def xt2 (s : Shared) : Bool := xlAt q2 [] s && recOk [] s
def recOf : Stmt → DefRec | .FunctionDef n ps b _ _ _ s _ _ pos => ⟨n, ps, b, s, pos⟩ | _ => ⟨"", sArgs (.Pass ⟨0, 0, 0, 0⟩), [], sScope (.Pass ⟨0, 0, 0, 0⟩), ⟨0, 0, 0, 0⟩⟩
def dLaw : DefRec := recOf (at2 68)
theorem said2 : PySem.Challenge.rw_sl0019_02.wellSaid = true := by kernel_rfl
abbrev Left2 (w : World) : Prop := (openEnds treeTable PySem.Challenge.pw_sl0019_02 w 3996).map (fun s => (openSeen q2 loose2 (importedModules PySem.Challenge.pw_sl0019_02.main.body) xt2 true s, obs2 s)) = some (openGood q2 loose2, val2 w)
theorem left2f : ∀ w : World, Left2 (w.withFollow "special-get-raises" false) := by
  unfold Left2 openEnds fencedOpening topFrom
  rw [PySem.W.Fast.te14364793385576792824, PySem.W.Fast.te4187177175401517315, PySem.W.Fast.te5923862056798008813, PySem.W.Fast.te10274390034422433532, PySem.W.Fast.te14289696077712309145, PySem.W.Fast.te14082659384304107361, PySem.W.Fast.te1435165496053646825]
  intro w
  kernel_rfl
theorem left2t : ∀ w : World, Left2 (w.withFollow "special-get-raises" true) := by
  unfold Left2 openEnds fencedOpening topFrom
  rw [PySem.W.Fast.te14364793385576792824, PySem.W.Fast.te4187177175401517315, PySem.W.Fast.te5923862056798008813, PySem.W.Fast.te10274390034422433532, PySem.W.Fast.te14289696077712309145, PySem.W.Fast.te14082659384304107361, PySem.W.Fast.te1435165496053646825]
  intro w
  kernel_rfl
end
set_option maxHeartbeats 0
section
theorem getD_of {vs : Array Value} {i : Nat} {v : Value} (h : vs[i]? = some v) : vs.getD i .none = v := by
  rw [Array.getD_eq_getD_getElem?, h]; rfl
theorem codeHd_of {K : Frag} {c P : Addr} (h : hdOk K c P = true) (hne : c ≠ P) {hp : Heap} (X : ∀ o, K.lookup c = some o → hp.get? c = some o) : CodeHd hp c P := by
  unfold hdOk at h
  split at h
  · rename_i n d vs sl e
    simp only [Bool.and_eq_true, decide_eq_true_eq] at h
    obtain ⟨⟨⟨⟨⟨h1, h2⟩, h3⟩, h4⟩, h5⟩, h6⟩ := h
    split at h2
    · rename_i p e11
      have hp' : p = P := by simpa using h2
      subst hp'
      split at h3
      · rename_i file tf e18
        split at h4
        · rename_i flags tg e7
          split at h5
          · rename_i inF e9
            split at h6
            · rename_i text tt e10
              exact ⟨_, vs, file, tf, flags, tg, inF, text, tt, X _ e, by rw [h1], rfl, e11, getD_of e11, e18, e7, e9, e10, hne⟩
            · cases h6
          · cases h5
        · cases h4
      · cases h3
    · cases h2
  · cases h
abbrev BisArgs (K : Frag) (st : Stmt) (dv kdv : Value) (t : Tok) : Prop := ∀ (fd : FuncData) (v u : Value) (S : Setting), fd.params = sArgs st → fd.defaults = dv → fd.kwdefaults = kdv → peek K S (bindArgs fd ⟨[v, u], []⟩) = some [(("a" : Str), v), ("x", u), ("lo", .int 0 t), ("hi", .none), ("key", .none)]
abbrev BisArgsK (K : Frag) (st : Stmt) (dv kdv : Value) (t : Tok) : Prop := ∀ (fd : FuncData) (v u z : Value) (S : Setting), fd.params = sArgs st → fd.defaults = dv → fd.kwdefaults = kdv → peek K S (bindArgs fd ⟨[v, u], [("key", z)]⟩) = some [(("a" : Str), v), ("x", u), ("lo", .int 0 t), ("hi", .none), ("key", z)]
theorem binding_bis {B : Base} {K : Frag} {st : Stmt} {dv kdv : Value} {t : Tok} (hB : ∀ a o, K.lookup a = some o → B.obj a = some o) (hb : BisArgs K st dv kdv t) (x y : V) :
    Binding B (sArgs st) dv kdv [] [x, y] [("a", x), ("x", y), ("lo", .int 0), ("hi", .none), ("key", .none)] := by
  intro fd P H s kvals vals hp hd hk ib o ar hkl
  have : kvals = [] := List.eq_nil_of_length_eq_zero hkl
  subst this
  have ar' : Are [x, y] vals := ar
  cases ar' with
  | cons i1 r1 => cases r1 with
    | cons i2 r2 =>
      cases r2
      exact ⟨_, kp_binds (K := K) (fun a o' e => ib.heap o _ _ (hB _ _ e)) fun S => hb fd _ _ S hp hd hk, .cons i1 (.cons i2 (.cons (.int 0 t) (.cons .none (.cons .none .nil))))⟩
theorem binding_bisK {B : Base} {K : Frag} {st : Stmt} {dv kdv : Value} {t : Tok} (hB : ∀ a o, K.lookup a = some o → B.obj a = some o) (hb : BisArgsK K st dv kdv t) (x y z : V) :
    Binding B (sArgs st) dv kdv ["key"] [z, x, y] [("a", x), ("x", y), ("lo", .int 0), ("hi", .none), ("key", z)] := by
  intro fd P H s kvals vals hp hd hk ib o ar hkl
  match kvals, hkl with
  | [kv], _ =>
    have ar' : Are [z, x, y] (kv :: vals) := ar
    cases ar' with
    | cons i0 r0 => cases r0 with
      | cons i1 r1 => cases r1 with
        | cons i2 r2 =>
          cases r2
          exact ⟨_, kp_binds (K := K) (fun a o' e => ib.heap o _ _ (hB _ _ e)) fun S => hb fd _ _ _ S hp hd hk, .cons i1 (.cons i2 (.cons (.int 0 t) (.cons .none (.cons i0 .nil))))⟩
def kBis (P : Params) : Frag := [(36, dObj 223), (37, kObj P 224), (45, dObj 237), (46, kObj P 238), (4, modObj)]
theorem bis_args1 (P : Params) : BisArgs (kBis P) (at2 5) (.ref 36) (.ref 37) 223 := by
  intro fd v u S h1 h2 h3; obtain ⟨⟩ := fd; cases h1; cases h2; cases h3; kernel_rfl
theorem bis_args2 (P : Params) : BisArgsK (kBis P) (at2 6) (.ref 45) (.ref 46) 237 := by
  intro fd v u z S h1 h2 h3; obtain ⟨⟩ := fd; cases h1; cases h2; cases h3; kernel_rfl
theorem lookup_mem {a : Addr} {o : Obj} : ∀ {l : Frag}, l.lookup a = some o → (a, o) ∈ l
  | [], h => nomatch h
  | (b, x) :: r, h => by
    have h' : (match a == b with | true => some x | false => List.lookup a r) = some o := h
    cases e : a == b with
    | true => rw [e] at h'; cases h'; rw [eq_of_beq e]; exact .head _
    | false => rw [e] at h'; exact .tail _ (lookup_mem h')
theorem kBis_in {K : Frag} {P : Params} (h : [K.lookup 36, K.lookup 37, K.lookup 45, K.lookup 46, K.lookup 4] = [some (dObj 223), some (kObj P 224), some (dObj 237), some (kObj P 238), some modObj]) {a : Addr} {o : Obj} (e : (kBis P).lookup a = some o) : K.lookup a = some o := by
  have h' : (kBis P).map (fun p => K.lookup p.1) = (kBis P).map (fun p => some p.2) := h
  have := List.map_inj_left.mp h' _ (lookup_mem e)
  exact this
theorem scopes2 : (defs2.map fun d => ((sScope (at2 d.n)).isGenerator, (sScope (at2 d.n)).isCoroutine, (sScope (at2 d.n)).kind)) = defs2.map fun d => (d.n == 1, false, .function) := by kernel_rfl
theorem dr_def {B : Base} {K : Frag} (X : ∀ a o, K.lookup a = some o → B.obj a = some o) (h : defs2.map (DR.seen K) = defs2.map DR.want) {i : Nat} {d : DR} (hi : defs2[i]? = some d) : DefAt B d.a (sArgs (at2 d.n)) (sBody (at2 d.n)) (sScope (at2 d.n)) d.dv d.kdv (d.n == 1) := by
  have e := map_at h hi
  have s := map_at scopes2 hi
  exact defAt_of X ⟨(Prod.mk.inj (Prod.mk.inj e).2).1, of_decide_eq_true (Prod.mk.inj (Prod.mk.inj e).2).2⟩ (Prod.mk.inj s).1 (Prod.mk.inj (Prod.mk.inj s).2).1 (Prod.mk.inj (Prod.mk.inj s).2).2
def movQ : Str := "_law_moved" ++ ".<locals>."
theorem defC_of {B : Base} {K : Frag} (X : ∀ a o, K.lookup a = some o → B.obj a = some o) {w : FdT} {c : Addr} (hc : w.2.2.2.2.2.2.2.2 = .ref c) {a : Addr} (h : (fdIn K a).map fdT = some w) (hq : (fdIn K a).map (·.qualname) = some "_law_moved") : DefC B a c movQ := by
  unfold fdIn at h hq
  split at h
  · rename_i cl d fd sl e
    have h1 : fdT fd = w := Option.some.inj h
    have h2 : fd.qualname = "_law_moved" := by
      split at hq
      · rename_i q; rw [e] at q; cases q; exact Option.some.inj hq
      · cases hq
    refine ⟨_, fd, X _ _ e, rfl, ?_, by rw [h2]; rfl⟩
    rw [← h1] at hc
    exact hc
  · cases h
theorem cutT_of {K : Frag} (hk : (esOf K 54).toList.map keyOf = keyL) (hn : (esOf K 54).toList.all isNat = true) (ho : opsB K = true) : CutT (tabVal K 54) (codeK K) := by
  refine ⟨fun x h => ?_, fun i hi => ?_⟩
  · unfold tabVal findBy at h
    rw [Option.isSome_map, ← Array.find?_toList] at h
    obtain ⟨e, he⟩ := Option.isSome_iff_exists.mp h
    have hm := List.mem_of_find?_eq_some he
    have hp := List.find?_some he
    obtain ⟨t, ht⟩ := Value.isStrOf_shape hp
    rw [← hk]
    refine List.mem_map.mpr ⟨e, hm, ?_⟩
    unfold keyOf; rw [ht]
  · have h1 := List.all_eq_true.mp ho i (List.mem_range.mpr hi)
    obtain ⟨z, hz⟩ := Option.isSome_iff_exists.mp h1
    obtain ⟨t, ht⟩ := (tabCode_ok hn _).1 z hz
    exact ⟨t, by rw [hz, ht]; rfl⟩
theorem law2_of {B : Base} {K : Frag} {n : Nat} {T : Option Obj} (X : ∀ a o, K.lookup a = some o → B.obj a = some o) (hin : ∀ n v, nsIn K mainGlobals n = some (some v) → B.mg n = some v) (hno : ∀ n, nsIn K mainGlobals n = some none → B.mg n = none) (E : obsK2 K n T = val2 B.w)
    (b1 : B.mb "len" = some (.builtin "len")) (b2 : B.mb "sum" = some (.builtin "sum")) (b3 : B.mb "sorted" = some (.builtin "sorted")) (b4 : B.mb "range" = some (.type "range")) (b5 : B.mb "enumerate" = some (.type "enumerate")) (b6 : B.mb "list" = some (.type "list")) :
    Law2 B 93 movQ (tabVal K 54) (codeK K) ∧ Def2 B 68 120 .none .none := by
  obtain ⟨_, E⟩ := Prod.mk.inj E
  obtain ⟨eD, E⟩ := Prod.mk.inj E
  obtain ⟨eN, E⟩ := Prod.mk.inj E
  obtain ⟨eV, E⟩ := Prod.mk.inj E
  obtain ⟨eT, E⟩ := Prod.mk.inj E
  obtain ⟨eH, E⟩ := Prod.mk.inj E
  obtain ⟨eK, E⟩ := Prod.mk.inj E
  obtain ⟨eB, E⟩ := Prod.mk.inj E
  obtain ⟨eO, E⟩ := Prod.mk.inj E
  obtain ⟨eQ, _⟩ := Prod.mk.inj E
  obtain ⟨vT, eV⟩ := List.cons.inj eV
  have vB := (List.cons.inj eV).1
  obtain ⟨kT, eB⟩ := List.cons.inj eB
  obtain ⟨nT, eB⟩ := List.cons.inj eB
  obtain ⟨eE, eB⟩ := List.cons.inj eB
  obtain ⟨hH, eB⟩ := List.cons.inj eB
  obtain ⟨oB, eB⟩ := List.cons.inj eB
  have iB := (List.cons.inj eB).1
  have nm : ∀ {i : Nat} {d : DR}, defs2[i]? = some d → B.mg d.name = some (.ref d.a) := fun hi => hin _ _ (Prod.mk.inj (map_at eD hi)).1
  have nn : ∀ {i : Nat} {x : Str}, no2[i]? = some x → B.mg x = none := fun hi => hno _ (map_at (g := fun _ => some none) eN hi)
  have X2 : ∀ a o, (kBis B.w.params).lookup a = some o → B.obj a = some o := fun a o e => X a o (kBis_in eO e)
  have bl : Blt2 B := ⟨nn (i := 0) rfl, b1, nn (i := 2) rfl, b4⟩
  have M : Mail B 21 28 := ⟨dr_def X eD (i := 0) rfl, dr_def X eD (i := 1) rfl, nn (i := 3) rfl, b5, nn (i := 0) rfl, b1, nm (i := 0) rfl, nm (i := 1) rfl⟩
  have EO : Eof B 63 := ⟨dr_def X eD (i := 5) rfl, nm (i := 5) rfl, by
    unfold endB at eE
    split at eE
    · rename_i i t q
      have h0 : i = 0 := by simpa using eE
      subst h0
      exact ⟨t, hin _ _ q⟩
    · cases eE⟩
  have LB : LamB B 95 93 := ⟨fun h hk => codeHd_of hH (by decide) fun o e => hk _ _ (X _ _ e),
    fun h hk => ⟨4, modObj, hin _ _ vB, by decide, by decide, by decide, hk _ _ (X2 4 modObj rfl), rfl, rfl, rfl⟩, by decide⟩
  have DC : DefC B 96 95 movQ := defC_of X (by rfl) (Prod.mk.inj (Prod.mk.inj (map_at eD (i := 10) rfl)).2).1 eQ
  have MO : Mov B 96 95 93 movQ 84 91 35 21 28 63 53 := ⟨dr_def X eD (i := 10) rfl, nm (i := 10) rfl, DC, LB, dr_def X eD (i := 8) rfl, nm (i := 8) rfl, dr_def X eD (i := 9) rfl, nm (i := 9) rfl, dr_def X eD (i := 2) rfl, nm (i := 2) rfl, M, EO,
    ⟨nm (i := 4) rfl, nn (i := 0) rfl, b1, _, _, dr_def X eD (i := 4) rfl, binding_bisK X2 (bis_args2 _)⟩, bl, nn (i := 5) rfl, b6⟩
  refine ⟨⟨bl, nn (i := 1) rfl, b2, nn (i := 4) rfl, b3, ⟨70, dr_def X eD (i := 6) rfl, nm (i := 6) rfl⟩,
    ⟨77, 54, dr_def X eD (i := 7) rfl, nm (i := 7) rfl, tab_of X (by decide) (dictAt_of eT) (keysLit_of (hashes_of eH eK kT) kT), cutT_of eK nT oB, hin _ _ vT⟩, fun i j hij hj => ?_,
    ⟨103, 96, 95, 84, 91, 35, 21, 28, 63, 53, dr_def X eD (i := 11) rfl, nm (i := 11) rfl, MO⟩, ⟨108, 44, dr_def X eD (i := 12) rfl, nm (i := 12) rfl, ⟨nm (i := 3) rfl, nn (i := 0) rfl, b1, _, _, dr_def X eD (i := 3) rfl, binding_bis X2 (bis_args1 _)⟩⟩,
    ⟨115, dr_def X eD (i := 13) rfl, nm (i := 13) rfl⟩⟩, dr_def X eD (i := 14) rfl⟩
  exact of_decide_eq_true (List.all_eq_true.mp (List.all_eq_true.mp iB j (List.mem_range.mpr hj)) i (List.mem_range.mpr hij))
end
set_option maxHeartbeats 0
section
theorem no2as : 121 ∉ as2 ∧ 93 ∉ as2 := by decide
/-- the law, at the heap that the top left with the script laid -/
theorem law2_wp {prog : Program} {w : World} {s₀ s : Shared} {mg mb : Str → Option Value} {vs : List Value} {ns : List Int} (keeps : ∀ b o, s₀.heap.get? b = some o → s.heap.get? b = some o) (hg : s.heap.Ns mainGlobals mg) (hb : s.heap.Ns builtinsNs mb) (hn : s.heap.NoLimit) (E : obs2 s₀ = val2 w)
    (b1 : mb "len" = some (.builtin "len")) (b2 : mb "sum" = some (.builtin "sum")) (b3 : mb "sorted" = some (.builtin "sorted")) (b4 : mb "range" = some (.type "range")) (b5 : mb "enumerate" = some (.type "enumerate")) (b6 : mb "list" = some (.type "list"))
    (hs : s.heap.get? 121 = some { cls := .type "list", data := .seq vs.toArray }) (hi : IntsAre vs ns) (hz : ns.length ≤ 2 ^ 20) (hgen : AllBare s.gens) :
    mg "law" = some (.ref 120) ∧ wpAny (model prog w) callerA (call (.ref 120) [.ref 121]) (fun v s' => v = .bool true ∧ OldK s.heap s'.heap ∧ s'.os = s.os ∧ AllBare s'.gens) (fun _ _ => False) s := by
  let B := baseOf prog w s.heap 121 93 mg mb hg hb hn (by decide) (by decide) (by decide)
  have X : (fragAt as2 s₀).In s.heap := fun a o e => keeps _ _ (fragAt_in a o e)
  have hX : ∀ a o, (fragAt as2 s₀).lookup a = some o → B.obj a = some o := fun a o e => by
    show (if a = 121 ∨ a = 93 then none else s.heap.get? a) = some o
    rw [if_neg (by rintro (rfl | rfl); exact no2as.1 (lookup_map e).1; exact no2as.2 (lookup_map e).1)]
    exact X a o e
  obtain ⟨L, D⟩ := law2_of (B := B) hX (fun n v e => mg_of X hg e) (fun n e => mg_no X hg e) E b1 b2 b3 b4 b5 b6
  refine ⟨mg_of X hg (Prod.mk.inj (map_at (Prod.mk.inj (Prod.mk.inj E).2).1 (i := 14) rfl)).1, ?_⟩
  have hT : s.heap.get? 93 = some (tabObj #[]) := keeps _ _ (Prod.mk.inj (Prod.mk.inj (Prod.mk.inj (Prod.mk.inj (Prod.mk.inj (Prod.mk.inj (Prod.mk.inj (Prod.mk.inj (Prod.mk.inj (Prod.mk.inj E).2).2).2).2).2).2).2).2).2).2
  have hHd : hdOk (fragAt as2 s₀) 95 93 = true := (List.cons.inj (List.cons.inj (List.cons.inj (List.cons.inj (Prod.mk.inj (Prod.mk.inj (Prod.mk.inj (Prod.mk.inj (Prod.mk.inj (Prod.mk.inj (Prod.mk.inj (Prod.mk.inj E).2).2).2).2).2).2).2).1).2).2).2).1
  have hCT : isCodeTable s.heap 93 := by
    obtain ⟨o, vs, file, tf, flags, tg, inF, text, tt, c1, c2, c3, c4, _⟩ := codeHd_of hHd (by decide) (fun o e => X 95 o e)
    exact ⟨95, o, vs, c1, c2, c3, c4⟩
  let ob : Obj := { cls := .type "list", data := .seq vs.toArray }
  let H : Hp := put (put (fun _ => none) 121 (.raw ob)) 93 (.raw (tabObj #[]))
  have hH : H 121 = some (.raw ob) := by show put _ _ _ _ = _; rw [put_ne _ _ (by decide), put_self]
  have hH2 : H 93 = some (.raw (tabObj #[])) := put_self _ _ _
  have hH0 : ∀ a, a ≠ 121 → a ≠ 93 → H a = none := fun a n1 n2 => by show put _ _ _ _ = _; rw [put_ne _ _ n2, put_ne _ _ n1]
  let P : Pr := { obj := B.obj, gen := fun _ => none, os := s.os }
  have o : Ok P H s := by
    refine ⟨fun a x e => ?_, fun a x e => ?_, fun a x e => ?_, fun _ _ e => (nomatch e), hgen, rfl⟩
    · have e' : (if a = 121 ∨ a = 93 then none else s.heap.get? a) = some x := e
      split at e'
      · cases e'
      · exact e'
    · by_cases q : a = 121
      · subst q
        rw [hH] at e; cases e
        exact ⟨ob, hs, .raw rfl⟩
      · by_cases q2 : a = 93
        · subst q2
          rw [hH2] at e; cases e
          exact ⟨_, hT, .raw rfl⟩
        · rw [hH0 a q q2] at e; cases e
    · have e' : (if a = 121 ∨ a = 93 then none else s.heap.get? a) = some x := e
      by_cases q : a = 121 ∨ a = 93
      · rw [if_pos q] at e'; cases e'
      · exact hH0 a (fun h => q (.inl h)) fun h => q (.inr h)
  have ia := are_ints hi
  have hl : ∀ H', Ext H H' → Lst H' 121 (vI ns) := fun H' x => .raw (vs := vs) (n := 0) (x _ _ hH) ia
  have r : Room 10 callerA := ⟨rfl, rfl, by decide +kernel, by decide +kernel⟩
  have tk : TabOk 93 movQ lamPos H := ⟨#[], hH2, trivial, fun p _ => .inl rfl⟩
  have key := law2_ok (k := 0) (Φ := fun v H' => v = .bool true ∧ ExtT 93 H H') D L (hl H (Ext.refl _)) hl (Nat.le_trans hz (by decide +kernel)) tk (fun H' x => ⟨rfl, x⟩) callerA P s [.ref 121] r (fun _ _ e => e) o (.cons (.ref 121) .nil)
  refine noE key ?_
  rintro val s' ⟨v, H', iv, o', rfl, x⟩
  cases iv
  obtain ⟨more, hm⟩ := x.2 _ hH2
  have hm' : s'.heap.get? 93 = some (tabObj (#[] ++ more)) := o'.raw hm
  have hk : ∀ b y, b ≠ 93 → s.heap.get? b = some y → s'.heap.get? b = some y := fun b y n e => by
    by_cases q : b = 121
    · subst q
      rw [hs] at e; cases e
      exact o'.raw (x.1 _ _ n hH)
    · refine o'.prot b y ?_
      show (if b = 121 ∨ b = 93 then none else s.heap.get? b) = some y
      rw [if_neg (by rintro (h | h); exact q h; exact n h)]; exact e
  refine ⟨rfl, ⟨fun b y e => ?_, fun b y e => ?_⟩, o'.os, o'.bare⟩
  · by_cases q : b = 93
    · subst q
      rw [hT] at e; cases e
      exact .inr (.inl ⟨hCT, rfl, #[], more, rfl, hm'⟩)
    · exact .inl (hk b y q e)
  · by_cases q : b = 93
    · subst q; exact ⟨_, hm'⟩
    · exact ⟨y, hk b y q e⟩
end
end Mine
end
open PySem PySem.W PySem.W.X PySem.W.ZRun PyProof.Rows
set_option maxRecDepth 100000 in
set_option maxHeartbeats 0 in
theorem PySem.Challenge.cw_sl0019_02_holds : PySem.Challenge.rw_sl0019_02.Holds := by
  w_on
  refine holds_law Mine.said2 fun said => ?_
  refine holds_openX (q := Mine.q2) (loose := Mine.loose2) (Xt := Mine.xt2) (XP := XL Mine.q2 []) (Yf := Mine.obs2) (Ya := Mine.val2) (N := 3996) (d := Mine.dLaw) (kwd := [])
    (byRow2 "special-get-raises" (P := Mine.Left2) Mine.left2f Mine.left2t) (fun s e => xl_of s (Bool.and_eq_true_iff.mp e).1) XL.keeps (by kernel_rfl) (by kernel_rfl) (by kernel_rfl) (fun s e => recFacts_of (Bool.and_eq_true_iff.mp e).2) (by rfl) said (by kernel_rfl) ⟨rfl, rfl, rfl, rfl, rfl, by decide +kernel⟩ ?hw ?hc
  case hw => w_witness2
  intro w s₀ s₁ mg mb G y fa o pm cd doc dV kV ho hd hcd hD hmg hg args vals as L hpre hlay hrd hwl hlo
  have ZN : s₀.heap.objs.size = 121 := (Prod.mk.inj y).1
  clear hd hD hcd ho
  refine Ground.open G ?_
  intro T B D TE TW
  wrow_args hpre hlay hrd hwl hlo
  obtain ⟨hat, hsz⟩ := script_at L
  rw [ZN] at hat hsz
  subst hat
  all_lens
  have key := Mine.law2_wp (prog := PySem.Challenge.rw_sl0019_02.row.prog) (w := w) L.keeps T.g T.b T.nolimit y ((T.builtins _ (by decide +kernel)).trans (by kernel_rfl)) ((T.builtins _ (by decide +kernel)).trans (by kernel_rfl)) ((T.builtins _ (by decide +kernel)).trans (by kernel_rfl)) ((T.builtins _ (by decide +kernel)).trans (by kernel_rfl)) ((T.builtins _ (by decide +kernel)).trans (by kernel_rfl)) ((T.builtins _ (by decide +kernel)).trans (by kernel_rfl))
    (script_obj L (by assumption)) (by assumption) (And.right (by assumption)) (.of_eq hg)
  have e : Value.ref fa = .ref 120 := Option.some.inj (hmg.symm.trans key.1)
  injection e with e
  subst e
  refine wpAny_mono key.2 ?_ (fun _ _ f => f.elim)
  rintro v s' ⟨rfl, hk, ho', hbare⟩
  exact ⟨.inl ⟨_, _, [], rfl, fun _ => rfl, ReadsW.bool true, by first | rfl | wrow_post, fun _ => ⟨List.nodup_nil, fun _ hm => nomatch hm⟩⟩, hk, ho', hbare⟩
