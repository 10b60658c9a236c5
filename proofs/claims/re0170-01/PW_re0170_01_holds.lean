import PyProof.Rows.All
import Wide.All
import OpenK.AllK
import Wide.FinOn
import PySem.Challenge.RW_re0170_01
set_option Elab.async false
/-! LayA -/
namespace Mine
open PySem PySem.W PySem.Calls PyProof.Rows
set_option Elab.async false

/-- what a value is to us: tokens and addresses forgotten, but for an owned object's own -/
inductive PV where
  | none
  | bool (b : Bool)
  | int (i : Int)
  | str (s : Str)
  | list (l : List PV)
  | tup (l : List PV)
  | dict (l : List (Str × PV))
  | at (a : Addr)
  | val (v : Value)
  | inst (C : Addr) (p : PV)

abbrev Look := Addr → Option Obj
/-- the one attribute of an object of the class -/
abbrev hdrName : Str := "_headers"
abbrev hdrObj (P : Params) (t : Tok) (u : Value) (n : Nat) : Obj := dictOf [⟨PyData.keyHash P hdrName, .str hdrName t, u⟩] n
abbrev listObj (vs : List Value) (n : Nat) : Obj := { cls := .type "list", data := .seq vs.toArray n }
abbrev tupObj (vs : List Value) (n : Nat) : Obj := { cls := .type "tuple", data := .seq vs.toArray n }

mutual
def Rep (P : Params) (L : Look) : PV → Value → Prop
  | .none, v => v = .none
  | .bool b, v => v = .bool b
  | .int i, v => ∃ t, v = .int i t
  | .str s, v => ∃ t, v = .str s t
  | .list l, v => ∃ a vs n, v = .ref a ∧ L a = some (listObj vs n) ∧ RepL P L l vs
  | .tup l, v => ∃ a vs n, v = .ref a ∧ L a = some (tupObj vs n) ∧ RepL P L l vs
  | .dict l, v => ∃ a es n, v = .ref a ∧ (a == sysModules) = false ∧ L a = some (dictOf es n) ∧ RepD P L l es
  | .at a, v => v = .ref a
  | .val x, v => v = x
  | .inst C p, v => ∃ x dx n t u, v = .ref x ∧ L x = some (instObj C dx) ∧ L dx = some (hdrObj P t u n) ∧ Rep P L p u
def RepL (P : Params) (L : Look) : List PV → List Value → Prop
  | [], vs => vs = []
  | p :: l, vs => ∃ v r, vs = v :: r ∧ Rep P L p v ∧ RepL P L l r
def RepD (P : Params) (L : Look) : List (Str × PV) → List DictEntry → Prop
  | [], es => es = []
  | (k, p) :: l, es => ∃ t v r, es = ⟨PyData.keyHash P k, .str k t, v⟩ :: r ∧ Rep P L p v ∧ RepD P L l r
end

def LookLe (L L' : Look) : Prop := ∀ a o, L a = some o → L' a = some o
theorem LookLe.rfl {L : Look} : LookLe L L := fun _ _ h => h
theorem LookLe.trans {L L' L'' : Look} (h : LookLe L L') (k : LookLe L' L'') : LookLe L L'' := fun a o x => k a o (h a o x)

mutual
theorem Rep.mono {P : Params} {L L' : Look} (hl : LookLe L L') : ∀ (p : PV) {v : Value}, Rep P L p v → Rep P L' p v
  | .none, _, h => h
  | .bool _, _, h => h
  | .int _, _, h => h
  | .str _, _, h => h
  | .list l, _, h => by obtain ⟨a, vs, n, e, ho, hr⟩ := h; exact ⟨a, vs, n, e, hl _ _ ho, RepL.mono hl l hr⟩
  | .tup l, _, h => by obtain ⟨a, vs, n, e, ho, hr⟩ := h; exact ⟨a, vs, n, e, hl _ _ ho, RepL.mono hl l hr⟩
  | .dict l, _, h => by obtain ⟨a, vs, n, e, hs, ho, hr⟩ := h; exact ⟨a, vs, n, e, hs, hl _ _ ho, RepD.mono hl l hr⟩
  | .at _, _, h => h
  | .val _, _, h => h
  | .inst C p, _, h => by obtain ⟨x, dx, n, t, u, e, h1, h2, h3⟩ := h; exact ⟨x, dx, n, t, u, e, hl _ _ h1, hl _ _ h2, Rep.mono hl p h3⟩
theorem RepL.mono {P : Params} {L L' : Look} (hl : LookLe L L') : ∀ (l : List PV) {vs : List Value}, RepL P L l vs → RepL P L' l vs
  | [], _, h => h
  | p :: l, _, h => by obtain ⟨v, r, e, h1, h2⟩ := h; exact ⟨v, r, e, Rep.mono hl p h1, RepL.mono hl l h2⟩
theorem RepD.mono {P : Params} {L L' : Look} (hl : LookLe L L') : ∀ (l : List (Str × PV)) {es : List DictEntry}, RepD P L l es → RepD P L' l es
  | [], _, h => h
  | (k, p) :: l, _, h => by obtain ⟨t, v, r, e, h1, h2⟩ := h; exact ⟨t, v, r, e, Rep.mono hl p h1, RepD.mono hl l h2⟩
end

theorem RepL.len {P : Params} {L : Look} : ∀ {l : List PV} {vs : List Value}, RepL P L l vs → vs.length = l.length
  | [], _, h => by cases h; rfl
  | p :: l, _, h => by obtain ⟨v, r, rfl, _, h2⟩ := h; simp [RepL.len h2]
theorem RepD.len {P : Params} {L : Look} : ∀ {l : List (Str × PV)} {vs : List DictEntry}, RepD P L l vs → vs.length = l.length
  | [], _, h => by cases h; rfl
  | p :: l, _, h => by obtain ⟨t, v, r, rfl, _, h2⟩ := h; simp [RepD.len h2]
theorem RepL.app {P : Params} {L : Look} : ∀ {l m : List PV} {vs ws : List Value}, RepL P L l vs → RepL P L m ws → RepL P L (l ++ m) (vs ++ ws)
  | [], _, _, _, h, k => by cases h; exact k
  | p :: l, _, _, _, h, k => by obtain ⟨v, r, rfl, h1, h2⟩ := h; exact ⟨v, _, rfl, h1, RepL.app h2 k⟩
theorem RepL.snoc {P : Params} {L : Look} {l : List PV} {p : PV} {vs : List Value} {v : Value} (h : RepL P L l vs) (k : Rep P L p v) : RepL P L (l ++ [p]) (vs ++ [v]) :=
  RepL.app h ⟨v, [], rfl, k, rfl⟩
theorem RepL.get {P : Params} {L : Look} : ∀ {l : List PV} {vs : List Value} {i : Nat} {p : PV}, RepL P L l vs → l[i]? = some p → ∃ v, vs[i]? = some v ∧ Rep P L p v
  | [], _, _, _, _, e => by simp at e
  | q :: l, _, 0, p, h, e => by obtain ⟨v, r, rfl, h1, _⟩ := h; simp at e; subst e; exact ⟨v, rfl, h1⟩
  | q :: l, _, i + 1, p, h, e => by obtain ⟨v, r, rfl, _, h2⟩ := h; exact RepL.get (l := l) (vs := r) (i := i) h2 (by simpa using e)
theorem RepL.drop {P : Params} {L : Look} : ∀ {l : List PV} {vs : List Value} (k : Nat), RepL P L l vs → RepL P L (l.drop k) (vs.drop k)
  | [], _, k, h => by cases h; simp [RepL]
  | q :: l, _, 0, h => h
  | q :: l, _, k + 1, h => by obtain ⟨v, r, rfl, _, h2⟩ := h; exact RepL.drop k h2
theorem RepL.take {P : Params} {L : Look} : ∀ {l : List PV} {vs : List Value} (k : Nat), RepL P L l vs → RepL P L (l.take k) (vs.take k)
  | [], _, k, h => by cases h; simp [RepL]
  | q :: l, _, 0, h => by simp [RepL]
  | q :: l, _, k + 1, h => by obtain ⟨v, r, rfl, h1, h2⟩ := h; exact ⟨v, _, rfl, h1, RepL.take k h2⟩

/-- the heap without the hidden addresses -/
def vis (h : Heap) (X : List Addr) : Look := fun a => if a ∈ X then none else h.get? a
def Keep (h h' : Heap) : Prop := ∀ b o, h.get? b = some o → h'.get? b = some o
theorem Keep.rfl {h : Heap} : Keep h h := fun _ _ e => e
theorem Keep.trans {h h' h'' : Heap} (k : Keep h h') (l : Keep h' h'') : Keep h h'' := fun b o e => l b o (k b o e)
theorem Keep.push {h h' : Heap} (k : Keep h h') (o : Obj) : Keep h (h'.push o) := fun b o' e => Heap.get?_push_of_some _ (k b o' e)
theorem vis_keep {h h' : Heap} {X : List Addr} (k : Keep h h') : LookLe (vis h X) (vis h' X) := fun a o e => by
  unfold vis at *; split at e
  · cases e
  · rename_i hx; rw [if_neg hx]; exact k a o e
theorem vis_sub {h : Heap} {X Y : List Addr} (k : ∀ a ∈ Y, a ∈ X) : LookLe (vis h X) (vis h Y) := fun a o e => by
  unfold vis at *; split at e
  · cases e
  · rename_i hx; rw [if_neg fun q => hx (k a q)]; exact e
theorem vis_get {h : Heap} {X : List Addr} {a : Addr} {o : Obj} (e : vis h X a = some o) : h.get? a = some o ∧ a ∉ X := by
  unfold vis at e; split at e
  · cases e
  · rename_i hx; exact ⟨e, hx⟩
theorem vis_of {h : Heap} {X : List Addr} {a : Addr} {o : Obj} (e : h.get? a = some o) (n : a ∉ X) : vis h X a = some o := by
  unfold vis; rw [if_neg n]; exact e
theorem vis_but {h h' : Heap} {X : List Addr} {b : Addr} (k : ∀ c o, c ≠ b → h.get? c = some o → h'.get? c = some o) (hb : b ∈ X) : LookLe (vis h X) (vis h' X) := fun a o e => by
  obtain ⟨e1, n⟩ := vis_get e
  exact vis_of (k a o (fun q => n (q ▸ hb)) e1) n

/-- an owned object -/
inductive MO where
  | list (l : List PV)
  | dict (l : List (Str × PV))
  | obj (o : Obj)
def MRep (P : Params) (L : Look) (h : Heap) (a : Addr) : MO → Prop
  | .list l => ∃ vs n, h.get? a = some (listObj vs n) ∧ RepL P L l vs
  | .dict l => (a == sysModules) = false ∧ ∃ es n, h.get? a = some (dictOf es n) ∧ RepD P L l es
  | .obj o => h.get? a = some o
theorem MRep.live {P : Params} {L : Look} {h : Heap} {a : Addr} {m : MO} (x : MRep P L h a m) : ∃ o, h.get? a = some o := by
  cases m with
  | list l => obtain ⟨vs, n, e, _⟩ := x; exact ⟨_, e⟩
  | dict l => obtain ⟨_, vs, n, e, _⟩ := x; exact ⟨_, e⟩
  | obj o => exact ⟨_, x⟩
theorem MRep.move {P : Params} {L L' : Look} {h h' : Heap} {a : Addr} {m : MO} (x : MRep P L h a m) (hl : LookLe L L') (k : ∀ o, h.get? a = some o → h'.get? a = some o) : MRep P L' h' a m := by
  cases m with
  | list l => obtain ⟨vs, n, e, r⟩ := x; exact ⟨vs, n, k _ e, RepL.mono hl l r⟩
  | dict l => obtain ⟨z, vs, n, e, r⟩ := x; exact ⟨z, vs, n, k _ e, RepD.mono hl l r⟩
  | obj o => exact k _ x

/-- the text's own objects, as every heap of the call holds them -/
structure Grd (P : Params) (mg mb : Str → Option Value) (K : List (Addr × Obj)) (h : Heap) : Prop where
  g : h.Ns mainGlobals mg
  b : h.Ns builtinsNs mb
  lim : h.NoLimit
  nb : NoneBooked h
  k : ∀ p ∈ K, h.get? p.1 = some p.2
  bb : ∀ x : Str, x ≠ "__name__" → mb x = bootBuiltins x
theorem Grd.kept {P : Params} {mg mb : Str → Option Value} {K : List (Addr × Obj)} {h h' : Heap} (x : Grd P mg mb K h) (k : Keep h h') : Grd P mg mb K h' where
  g := x.g.keeps k
  b := x.b.keeps k
  lim := x.lim.keeps k
  nb := by obtain ⟨mc, h1, h2⟩ := x.nb; exact ⟨mc, h1.keeps k, h2⟩
  k := fun p hp => k _ _ (x.k p hp)
  bb := x.bb

/-- a frame's fixed part -/
structure Cx where
  prog : Program
  w : World
  A : Around
  env : Env
  wr : Bool
  mg : Str → Option Value
  mb : Str → Option Value
  K : List (Addr × Obj)
  n : Nat
abbrev Cx.G (C : Cx) (h : Heap) : Prop := Grd C.w.params C.mg C.mb C.K h
abbrev Vars := List (Str × PV)
abbrev Owns := List (Addr × MO)
/-- what a stretch of the run stands on: the heap that it keeps, the addresses that it does not see -/
structure Bs where
  h₀ : Heap
  X : List Addr
def Cx.hb (C : Cx) (B : Bs) : List Addr := C.env.locals :: (C.env.cells.map (·.2) ++ B.X)
def Cx.hid (C : Cx) (B : Bs) (M : Owns) : List Addr := M.map (·.1) ++ C.hb B
abbrev Cx.look (C : Cx) (B : Bs) (M : Owns) (h : Heap) : Look := vis h (C.hid B M)
structure Cx.Ok (C : Cx) : Prop where
  fn : C.env.scope.kind = .function
  hh : C.A.handled = none
  units : C.A.units + 4 * C.n + 20 < cLine
  depth : C.A.depth + C.n + 5 < recursionLimit
  gl : C.env.globals = mainGlobals
  bl : C.env.builtins = builtinsNs

structure Est (C : Cx) (B : Bs) (V : Vars) (M : Owns) (h : Heap) : Prop where
  g : C.G B.h₀
  keep : Keep B.h₀ h
  liveX : ∀ a ∈ C.hb B, ∃ o, h.get? a = some o
  newL : B.h₀.get? C.env.locals = none
  locC : ∀ p ∈ C.env.cells, p.2 ≠ C.env.locals
  cells : C.wr = true → (∀ p ∈ C.env.cells, B.h₀.get? p.2 = none) ∧ C.env.cells.Pairwise fun x y => x.2 ≠ y.2
  vars : ∃ m cm : Str → Option Value, h.Ns C.env.locals m ∧ (∀ n c, C.env.cells.lookup n = some c → h.IsCell c (cm n)) ∧
    ∀ x pv, V.lookup x = some pv → ∃ v, Rep C.w.params (C.look B M h) pv v ∧
      ((C.env.kindOf x = some .local ∧ m x = some v) ∨ ((C.env.kindOf x = some .cell ∨ C.env.kindOf x = some .free) ∧ (∃ c, C.env.cells.lookup x = some c) ∧ cm x = some v))
  own : ∀ p ∈ M, MRep C.w.params (C.look B M h) h p.1 p.2 ∧ B.h₀.get? p.1 = none ∧ p.1 ∉ C.hb B
  apart : (M.map (·.1)).Nodup

theorem Est.kept {C : Cx} {B : Bs} {V : Vars} {M : Owns} {h h' : Heap} (x : Est C B V M h) (k : Keep h h') : Est C B V M h' where
  g := x.g
  keep := x.keep.trans k
  liveX := fun a ha => let ⟨o, e⟩ := x.liveX a ha; ⟨o, k a o e⟩
  newL := x.newL
  locC := x.locC
  cells := x.cells
  vars := by
    obtain ⟨m, cm, h1, h2, h3⟩ := x.vars
    refine ⟨m, cm, h1.keeps k, fun n c e => (h2 n c e).keeps k, fun y pv e => ?_⟩
    obtain ⟨v, r, q⟩ := h3 y pv e
    exact ⟨v, r.mono (vis_keep k), q⟩
  own := fun p hp => ⟨(x.own p hp).1.move (vis_keep k) fun o e => k _ o e, (x.own p hp).2⟩
  apart := x.apart
theorem Est.fresh {C : Cx} {B : Bs} {V : Vars} {M : Owns} {h : Heap} (x : Est C B V M h) {a : Addr} (e : h.get? a = none) : a ∉ C.hid B M := fun ha => by
  rcases List.mem_append.mp ha with q | q
  · obtain ⟨p, hp, rfl⟩ := List.mem_map.mp q
    obtain ⟨o, e'⟩ := (x.own p hp).1.live
    rw [e] at e'; cases e'
  · obtain ⟨o, e'⟩ := x.liveX a q
    rw [e] at e'; cases e'
theorem get_size (h : Heap) : h.get? h.objs.size = none := by
  cases e : h.get? h.objs.size with
  | none => rfl
  | some o => exact absurd (Heap.lt_size e) (Nat.lt_irrefl _)

theorem wpAny_tk {α : Type} {M : Model} {A : Around} {t : Sem α} {Q : α → Shared → Prop} {E : Value → Shared → Prop} {s : Shared} (tk : 0 < s.toks) (h : wpAny M A t (fun a s' => 0 < s'.toks → Q a s') E s) : wpAny M A t Q E s :=
  wpAny_mono (wpAny_toks_of (n := 1) (Q := fun v s' => 0 < s'.toks → Q v s') tk h) (fun _ _ q => q.2 q.1) fun _ _ q => q.2
/-- a tree gives pv, in any state of the frame -/
def SV (C : Cx) (V : Vars) (M : Owns) (t : Sem Value) (pv : PV) : Prop :=
  C.Ok → ∀ (B : Bs) (s : Shared) (Q : Value → Shared → Prop) (E : Value → Shared → Prop), Est C B V M s.heap → 0 < s.toks →
    (∀ v h' t', Keep s.heap h' → Rep C.w.params (C.look B M h') pv v → Q v { s with heap := h', toks := t' }) → wpAny (model C.prog C.w) C.A t Q E s
abbrev EV (C : Cx) (V : Vars) (M : Owns) (e : Expr) (pv : PV) : Prop := SV C V M (eval e C.env) pv
def ET (C : Cx) (V : Vars) (M : Owns) (e : Expr) (b : Bool) : Prop :=
  C.Ok → ∀ (B : Bs) (s : Shared) (Q : Bool → Shared → Prop) (E : Value → Shared → Prop), Est C B V M s.heap → 0 < s.toks →
    (∀ h' t', Keep s.heap h' → Q b { s with heap := h', toks := t' }) → wpAny (model C.prog C.w) C.A (isTrue e C.env (eval e C.env)) Q E s
inductive Fl where
  | next
  | brk
  | cont
  | ret (p : PV)
def FlRep (C : Cx) (B : Bs) (h : Heap) : Fl → Flow → Prop
  | .next, f => f = .next
  | .brk, f => f = .brk
  | .cont, f => f = .cont
  | .ret p, f => ∃ v, f = .ret v ∧ Rep C.w.params (vis h (C.hb B)) p v
abbrev Cont := Fl → Vars → Owns → Prop
def XT (C : Cx) (V : Vars) (M : Owns) (t : Sem Flow) (K : Cont) : Prop :=
  C.Ok → ∀ (B : Bs) (s : Shared) (Q : Flow → Shared → Prop) (E : Value → Shared → Prop), Est C B V M s.heap → 0 < s.toks →
    (∀ fl f V' M' h' t', Est C B V' M' h' → FlRep C B h' fl f → K fl V' M' → Q f { s with heap := h', toks := t' }) → wpAny (model C.prog C.w) C.A t Q E s
abbrev EX (C : Cx) (V : Vars) (M : Owns) (b : List Stmt) (K : Cont) : Prop := XT C V M (execs b C.env) K
abbrev EX1 (C : Cx) (V : Vars) (M : Owns) (b : Stmt) (K : Cont) : Prop := XT C V M (exec b C.env) K

section
variable {C : Cx} {V : Vars} {M : Owns} {K : Cont}

theorem Est.G {B : Bs} {h : Heap} (x : Est C B V M h) : C.G h := x.g.kept x.keep
theorem SV.then {t : Sem Value} {pv : PV} (h : SV C V M t pv) (ok : C.Ok) {B : Bs} {s : Shared} {Q : Value → Shared → Prop} {E : Value → Shared → Prop} (hE : Est C B V M s.heap) (tk : 0 < s.toks)
    (k : ∀ v h' t', Keep s.heap h' → Est C B V M h' → 0 < t' → Rep C.w.params (C.look B M h') pv v → Q v { s with heap := h', toks := t' }) : wpAny (model C.prog C.w) C.A t Q E s :=
  wpAny_mono (wpAny_toks_of (n := 1) (Q := fun v s' => 0 < s'.toks → Q v s') tk (h ok B s (fun v s' => 0 < s'.toks → Q v s') E hE tk fun v h' t' kp r pt => k v h' t' kp (hE.kept kp) pt r)) (fun _ _ q => q.2 q.1) fun _ _ q => q.2
theorem ET.then {t : Expr} {b : Bool} (h : ET C V M t b) (ok : C.Ok) {B : Bs} {s : Shared} {Q : Bool → Shared → Prop} {E : Value → Shared → Prop} (hE : Est C B V M s.heap) (tk : 0 < s.toks)
    (k : ∀ h' t', Keep s.heap h' → Est C B V M h' → 0 < t' → Q b { s with heap := h', toks := t' }) : wpAny (model C.prog C.w) C.A (isTrue t C.env (eval t C.env)) Q E s :=
  wpAny_mono (wpAny_toks_of (n := 1) (Q := fun v s' => 0 < s'.toks → Q v s') tk (h ok B s (fun v s' => 0 < s'.toks → Q v s') E hE tk fun h' t' kp pt => k h' t' kp (hE.kept kp) pt)) (fun _ _ q => q.2 q.1) fun _ _ q => q.2
theorem XT.then {t : Sem Flow} (h : XT C V M t K) (ok : C.Ok) {B : Bs} {s : Shared} {Q : Flow → Shared → Prop} {E : Value → Shared → Prop} (hE : Est C B V M s.heap) (tk : 0 < s.toks)
    (k : ∀ fl f V' M' h' t', Est C B V' M' h' → 0 < t' → FlRep C B h' fl f → K fl V' M' → Q f { s with heap := h', toks := t' }) : wpAny (model C.prog C.w) C.A t Q E s :=
  wpAny_mono (wpAny_toks_of (n := 1) (Q := fun v s' => 0 < s'.toks → Q v s') tk (h ok B s (fun v s' => 0 < s'.toks → Q v s') E hE tk fun fl f V' M' h' t' e' r hk pt => k fl f V' M' h' t' e' pt r hk)) (fun _ _ q => q.2 q.1) fun _ _ q => q.2

theorem EX.nil (h : K .next V M) : EX C V M [] K := fun _ B s Q E hE tk k => wpAny_execs_nil (k .next .next V M s.heap s.toks hE rfl h)
theorem EX.cons {st : Stmt} {rest : List Stmt} (h : EX1 C V M st (fun fl V' M' => match fl with | .next => EX C V' M' rest K | f => K f V' M')) : EX C V M (st :: rest) K := fun ok B s Q E hE tk k => by
  refine wpAny_execs_cons (h.then ok hE tk fun fl f V' M' h' t' e' pt r hk => ?_)
  cases fl with
  | next => cases r; exact hk ok B { s with heap := h', toks := t' } Q E e' pt fun fl f V'' M'' h'' t'' => k fl f V'' M'' h'' t''
  | brk => cases r; exact k .brk .brk V' M' h' t' e' rfl hk
  | cont => cases r; exact k .cont .cont V' M' h' t' e' rfl hk
  | ret p => obtain ⟨v, rfl, r⟩ := r; exact k (.ret p) (.ret v) V' M' h' t' e' ⟨v, rfl, r⟩ hk

theorem XT.mono {t : Sem Flow} {K' : Cont} (h : XT C V M t K) (k : ∀ fl V' M', K fl V' M' → K' fl V' M') : XT C V M t K' := fun ok B s Q E hE tk q =>
  h ok B s Q E hE tk fun fl f V' M' h' t' e' r hk => q fl f V' M' h' t' e' r (k _ _ _ hk)

/-- the frame's own, writable addresses -/
def Cx.own (C : Cx) (M : Owns) : List Addr := M.map (·.1) ++ C.env.locals :: (if C.wr then C.env.cells.map (·.2) else [])
theorem Est.weaken {h₀ h₁ h : Heap} {X : List Addr} (k : Keep h₀ h₁) (g : C.G h₀) (x : Est C ⟨h₁, X⟩ V M h) : Est C ⟨h₀, X⟩ V M h :=
  have z : ∀ a, h₁.get? a = none → h₀.get? a = none := fun a e => by
    cases q : h₀.get? a with
    | none => rfl
    | some o => rw [k a o q] at e; cases e
  ⟨g, k.trans x.keep, x.liveX, z _ x.newL, x.locC, fun w => ⟨fun p hp => z _ ((x.cells w).1 p hp), (x.cells w).2⟩, x.vars, fun p hp => ⟨(x.own p hp).1, z _ (x.own p hp).2.1, (x.own p hp).2.2⟩, x.apart⟩
theorem Est.strip_keep {B : Bs} {h : Heap} (x : Est C B V M h) (wr : List Addr) (hw : ∀ b ∈ wr, B.h₀.get? b = none) : Keep B.h₀ (hideAll h (C.own M ++ wr)) := fun b o e => hideAll_get _ (x.keep b o e) fun hm => by
  have z : ∀ c, B.h₀.get? c = none → b ≠ c := fun c q r => by rw [r, q] at e; cases e
  rcases List.mem_append.mp hm with hm | q
  · rcases List.mem_append.mp hm with q | q
    · obtain ⟨p, hp, rfl⟩ := List.mem_map.mp q
      exact z _ (x.own p hp).2.1 rfl
    · rcases List.mem_cons.mp q with q | q
      · exact z _ x.newL q
      · split at q
        · rename_i w
          obtain ⟨p, hp, rfl⟩ := List.mem_map.mp q
          exact z _ ((x.cells w).1 p hp) rfl
        · cases q
  · exact z _ (hw b q) rfl
theorem Cx.hb_mono {C : Cx} {B B' : Bs} (h : ∀ a ∈ B'.X, a ∈ B.X) : ∀ a ∈ C.hb B', a ∈ C.hb B := fun a ha => by
  rcases List.mem_cons.mp ha with q | q
  · rw [q]; exact List.mem_cons_self
  · rcases List.mem_append.mp q with q | q
    · exact List.mem_cons_of_mem _ (List.mem_append_left _ q)
    · exact List.mem_cons_of_mem _ (List.mem_append_right _ (h a q))
theorem Cx.hid_mono {C : Cx} {B B' : Bs} {M : Owns} (h : ∀ a ∈ B'.X, a ∈ B.X) : ∀ a ∈ C.hid B' M, a ∈ C.hid B M := fun a ha => by
  rcases List.mem_append.mp ha with q | q
  · exact List.mem_append_left _ q
  · exact List.mem_append_right _ (Cx.hb_mono h a q)
/-- fewer unseen addresses -/
theorem Est.seeX {h₀ h : Heap} {X Y : List Addr} (x : Est C ⟨h₀, X⟩ V M h) (hs : ∀ a ∈ Y, a ∈ X) : Est C ⟨h₀, Y⟩ V M h := by
  have hl : LookLe (C.look ⟨h₀, X⟩ M h) (C.look ⟨h₀, Y⟩ M h) := vis_sub (Cx.hid_mono (B := ⟨h₀, X⟩) (B' := ⟨h₀, Y⟩) hs)
  exact {
    g := x.g
    keep := x.keep
    liveX := fun a ha => x.liveX a (Cx.hb_mono (B := ⟨h₀, X⟩) (B' := ⟨h₀, Y⟩) hs a ha)
    newL := x.newL
    locC := x.locC
    cells := x.cells
    vars := by
      obtain ⟨m, cm, h1, h2, h3⟩ := x.vars
      exact ⟨m, cm, h1, h2, fun y pv e => let ⟨v, r, q⟩ := h3 y pv e; ⟨v, r.mono hl, q⟩⟩
    own := fun p hp => ⟨(x.own p hp).1.move hl fun _ e => e, (x.own p hp).2.1, fun q => (x.own p hp).2.2 (Cx.hb_mono (B := ⟨h₀, X⟩) (B' := ⟨h₀, Y⟩) hs _ q)⟩
    apart := x.apart }
/-- the state as it stands, as the base of what follows; new things, unseen -/
theorem Est.rebase {B : Bs} {h : Heap} (x : Est C B V M h) : Est C ⟨hideAll h (C.own M), B.X⟩ V M h where
  g := x.g.kept (by have := x.strip_keep [] (fun _ q => nomatch q); rwa [List.append_nil] at this)
  keep := fun b o e => of_hideAll _ e
  liveX := x.liveX
  newL := hideAll_none _ (List.mem_append_right _ List.mem_cons_self)
  locC := x.locC
  cells := fun w => ⟨fun p hp => hideAll_none _ (List.mem_append_right _ (List.mem_cons_of_mem _ (by rw [if_pos w]; exact List.mem_map.mpr ⟨p, hp, rfl⟩))), (x.cells w).2⟩
  vars := x.vars
  own := fun p hp => ⟨(x.own p hp).1, hideAll_none _ (List.mem_append_left _ (List.mem_map.mpr ⟨p, hp, rfl⟩)), (x.own p hp).2.2⟩
  apart := x.apart
theorem Est.back {B : Bs} {h h' : Heap} {V' : Vars} {M' : Owns} (x : Est C B V M h) (y : Est C ⟨hideAll h (C.own M), B.X⟩ V' M' h') : Est C B V' M' h' :=
  y.weaken (by have := x.strip_keep [] (fun _ q => nomatch q); rwa [List.append_nil] at this) x.g
/-- what the base shows is seen for good -/
theorem Est.base_look {B : Bs} {h : Heap} (x : Est C B V M h) : LookLe (vis B.h₀ (C.hb B)) (C.look B M h) := fun a o e => by
  obtain ⟨e1, n⟩ := vis_get e
  refine vis_of (x.keep a o e1) fun hm => ?_
  rcases List.mem_append.mp hm with q | q
  · obtain ⟨p, hp, rfl⟩ := List.mem_map.mp q
    rw [(x.own p hp).2.1] at e1; cases e1
  · exact n q
end
end Mine

/-! LayB -/
namespace Mine
open PySem PySem.W PySem.Calls PyProof.Rows
set_option Elab.async false
section
variable {C : Cx} {V : Vars} {M : Owns} {K : Cont}

theorem Rep.get {P : Params} {L L' : Look} {p : PV} {v : Value} (h : Rep P L p v) (hl : LookLe L L') : Rep P L' p v := Rep.mono hl p h

theorem EV.local {x : Str} {pos : Pos} {pv : PV} (hk : C.env.kindOf x = some .local) (hv : V.lookup x = some pv) (hd : (x == ("__debug__" : Str)) = false := by decide) : EV C V M (.Name x pos) pv := fun ok B s Q E hE tk k => by
  obtain ⟨m, cm, h1, h2, h3⟩ := hE.vars
  obtain ⟨v, r, q⟩ := h3 x pv hv
  rcases q with ⟨_, q⟩ | ⟨q, _⟩
  · exact wpAny_Name (wpAny_loadName_local ok.fn hk h1 q (k v s.heap s.toks .rfl r)) hd
  · rw [hk] at q; rcases q with q | q <;> cases q
theorem EV.cell {x : Str} {pos : Pos} {pv : PV} (hk : C.env.kindOf x = some .cell) (hv : V.lookup x = some pv) (hd : (x == ("__debug__" : Str)) = false := by decide) : EV C V M (.Name x pos) pv := fun ok B s Q E hE tk k => by
  obtain ⟨m, cm, h1, h2, h3⟩ := hE.vars
  obtain ⟨v, r, q⟩ := h3 x pv hv
  rcases q with ⟨q, _⟩ | ⟨_, ⟨c, hc⟩, q⟩
  · rw [hk] at q; cases q
  · exact wpAny_Name (wpAny_loadName_cell ok.fn hk hc (q ▸ h2 x c hc) (k v s.heap s.toks .rfl r)) hd
theorem EV.global {x : Str} {pos : Pos} {v : Value} (hk : C.env.kindOf x = some .globalImplicit) (hv : C.mg x = some v) {pv : PV} (hr : ∀ P L, Rep P L pv v) (hd : (x == ("__debug__" : Str)) = false := by decide) : EV C V M (.Name x pos) pv := fun ok B s Q E hE tk k => by
  exact Name_function_global ok.fn hk (loadGlobal_global (by rw [ok.gl]; exact hE.G.g) hv (k v s.heap s.toks .rfl (hr _ _))) hd
theorem EV.builtin {x : Str} {pos : Pos} {v : Value} (hk : C.env.kindOf x = some .globalImplicit) (hn : C.mg x = none) (hv : bootBuiltins x = some v) (hx : x ≠ "__name__") (hd : (x == ("__debug__" : Str)) = false := by decide) : EV C V M (.Name x pos) (.val v) := fun ok B s Q E hE tk k => by
  exact Name_function_global ok.fn hk (loadGlobal_builtin (by rw [ok.gl]; exact hE.G.g) hn (by rw [ok.bl]; exact hE.G.b) ((hE.g.bb x hx).trans hv) (k v s.heap s.toks .rfl rfl)) hd

theorem EV.cint {i : Int} {k : Nat} {pos : Pos} : EV C V M (.Constant (.int i) k pos) (.int i) := fun ok B s Q E hE tk q => wpAny_Constant_int (q _ s.heap (s.toks + 1) .rfl ⟨_, rfl⟩)
theorem EV.cstr {x : Str} {k : Nat} {pos : Pos} : EV C V M (.Constant (.str x) k pos) (.str x) := fun ok B s Q E hE tk q => wpAny_Constant_str (q _ s.heap (s.toks + 1) .rfl ⟨_, rfl⟩)
theorem EV.cbool {b : Bool} {k : Nat} {pos : Pos} : EV C V M (.Constant (.bool b) k pos) (.bool b) := fun ok B s Q E hE tk q => wpAny_Constant_bool (q _ s.heap s.toks .rfl rfl)
theorem EV.cnone {k : Nat} {pos : Pos} : EV C V M (.Constant .none k pos) .none := fun ok B s Q E hE tk q => wpAny_Constant_none (q _ s.heap s.toks .rfl rfl)

/-- two values, a tree over them -/
def Bi (C : Cx) (V : Vars) (M : Owns) (t : Value → Value → Sem Value) (p q r : PV) : Prop :=
  C.Ok → ∀ (B : Bs) (a b : Value) (s : Shared) (Q : Value → Shared → Prop) (E : Value → Shared → Prop), Est C B V M s.heap → 0 < s.toks → Rep C.w.params (C.look B M s.heap) p a → Rep C.w.params (C.look B M s.heap) q b →
    (∀ v h' t', Keep s.heap h' → Rep C.w.params (C.look B M h') r v → Q v { s with heap := h', toks := t' }) → wpAny (model C.prog C.w) C.A (t a b) Q E s
def Un (C : Cx) (V : Vars) (M : Owns) (t : Value → Sem Value) (p r : PV) : Prop :=
  C.Ok → ∀ (B : Bs) (a : Value) (s : Shared) (Q : Value → Shared → Prop) (E : Value → Shared → Prop), Est C B V M s.heap → 0 < s.toks → Rep C.w.params (C.look B M s.heap) p a →
    (∀ v h' t', Keep s.heap h' → Rep C.w.params (C.look B M h') r v → Q v { s with heap := h', toks := t' }) → wpAny (model C.prog C.w) C.A (t a) Q E s

theorem EV.bin {l r : Expr} {op : Operator} {pos : Pos} {p q z : PV} (hl : EV C V M l p) (hr : EV C V M r q) (h : Bi C V M (binaryOp op) p q z) : EV C V M (.BinOp l op r pos) z := fun ok B s Q E hE tk k => by
  refine wpAny_BinOp (hl.then ok hE tk fun a h1 t1 k1 e1 p1 r1 => ?_)
  refine hr.then ok (s := { s with heap := h1, toks := t1 }) e1 p1 fun b h2 t2 k2 e2 p2 r2 => ?_
  exact h ok B a b { s with heap := h2, toks := t2 } Q E e2 p2 (r1.get (vis_keep k2)) r2 fun v h3 t3 k3 r3 => k v h3 t3 (k1.trans (k2.trans k3)) r3
theorem EV.cmp {l r : Expr} {op : CmpOp} {pos : Pos} {p q z : PV} (hl : EV C V M l p) (hr : EV C V M r q) (h : Bi C V M (compareOp op) p q z) (hm : behindInMarks op r = false) : EV C V M (.Compare l [op] [r] pos) z := fun ok B s Q E hE tk k => by
  refine wpAny_Compare1 (hl.then ok hE tk fun a h1 t1 k1 e1 p1 r1 => ?_) hm
  refine hr.then ok (s := { s with heap := h1, toks := t1 }) e1 p1 fun b h2 t2 k2 e2 p2 r2 => ?_
  exact h ok B a b { s with heap := h2, toks := t2 } Q E e2 p2 (r1.get (vis_keep k2)) r2 fun v h3 t3 k3 r3 => k v h3 t3 (k1.trans (k2.trans k3)) r3
theorem ET.cmp {l r : Expr} {op : CmpOp} {pos : Pos} {p q : PV} {b : Bool} (hl : EV C V M l p) (hr : EV C V M r q) (h : Bi C V M (compareOp op) p q (.bool b)) (hm : behindInMarks op r = false) : ET C V M (.Compare l [op] [r] pos) b := fun ok B s Q E hE tk k => by
  refine wpAny_isTrue_Compare1 (hl.then ok hE tk fun a h1 t1 k1 e1 p1 r1 => ?_) hm
  refine hr.then ok (s := { s with heap := h1, toks := t1 }) e1 p1 fun b h2 t2 k2 e2 p2 r2 => ?_
  refine h ok B a b { s with heap := h2, toks := t2 } _ E e2 p2 (r1.get (vis_keep k2)) r2 fun v h3 t3 k3 r3 => ?_
  cases r3
  exact wpAny_truthy_bool (k h3 t3 (k1.trans (k2.trans k3)))
theorem ET.not {x : Expr} {pos : Pos} {b : Bool} (h : ET C V M x b) : ET C V M (.UnaryOp .Not x pos) (!b) := fun ok B s Q E hE tk k =>
  wpAny_isTrue_Not (h ok B s _ E hE tk k)
def AllT (C : Cx) (V : Vars) (M : Owns) (op : BoolOp) (es : List Expr) (b : Bool) : Prop :=
  C.Ok → ∀ (B : Bs) (s : Shared) (Q : Bool → Shared → Prop) (E : Value → Shared → Prop), Est C B V M s.heap → 0 < s.toks →
    (∀ h' t', Keep s.heap h' → Q b { s with heap := h', toks := t' }) → wpAny (model C.prog C.w) C.A (allTrue op es C.env) Q E s
theorem ET.bool {op : BoolOp} {es : List Expr} {pos : Pos} {b : Bool} (h : AllT C V M op es b) : ET C V M (.BoolOp op es pos) b := fun ok B s Q E hE tk k =>
  wpAny_isTrue_BoolOp (h ok B s Q E hE tk k)
theorem AllT.and_nil : AllT C V M .And [] true := fun _ _ s _ _ _ _ k => wpAny_allTrue_And_nil (k s.heap s.toks .rfl)
theorem AllT.and_false {e : Expr} {es : List Expr} (h : ET C V M e false) : AllT C V M .And (e :: es) false := fun ok B s Q E hE tk k =>
  wpAny_allTrue_And_cons (h ok B s _ E hE tk k)
theorem AllT.and_true {e : Expr} {es : List Expr} {b : Bool} (h : ET C V M e true) (h2 : AllT C V M .And es b) : AllT C V M .And (e :: es) b := fun ok B s Q E hE tk k =>
  wpAny_allTrue_And_cons (h.then ok hE tk fun h1 t1 k1 e1 p1 => h2 ok B { s with heap := h1, toks := t1 } Q E e1 p1 fun h2 t2 k2 => k h2 t2 (k1.trans k2))
theorem AllT.and {e : Expr} {es : List Expr} {a b : Bool} (h : ET C V M e a) (h2 : a = true → AllT C V M .And es b) : AllT C V M .And (e :: es) (a && b) := by
  cases a
  · exact AllT.and_false h
  · exact AllT.and_true h (h2 rfl)

/-- truth of a value -/
def Tr (C : Cx) (V : Vars) (M : Owns) (p : PV) (b : Bool) : Prop :=
  C.Ok → ∀ (B : Bs) (a : Value) (s : Shared) (Q : Bool → Shared → Prop) (E : Value → Shared → Prop), Est C B V M s.heap → 0 < s.toks → Rep C.w.params (C.look B M s.heap) p a →
    (∀ h' t', Keep s.heap h' → Q b { s with heap := h', toks := t' }) → wpAny (model C.prog C.w) C.A (truthy a) Q E s
theorem ET.val {e : Expr} {p : PV} {b : Bool} (h : EV C V M e p) (ht : Tr C V M p b)
    (he : isTrue e C.env (eval e C.env) = (do let v ← eval e C.env; standAt e.pos; holding [v] (truthy v))) : ET C V M e b := fun ok B s Q E hE tk k =>
  wpAny_isTrue_value (h.then ok hE tk fun a h1 t1 k1 e1 p1 r1 => ht ok B a { s with heap := h1, toks := t1 } Q E e1 p1 r1 fun h2 t2 k2 => k h2 t2 (k1.trans k2)) he
theorem Tr.bool {b : Bool} : Tr C V M (.bool b) b := fun ok B a s Q E hE tk r k => by cases r; exact wpAny_truthy_bool (k s.heap s.toks .rfl)

theorem Bi.add_int {a b : Int} : Bi C V M (binaryOp .Add) (.int a) (.int b) (.int (a + b)) := fun ok B _ _ s Q E hE tk r1 r2 k => by
  obtain ⟨t, rfl⟩ := r1; obtain ⟨u, rfl⟩ := r2
  exact PyProof.Rows.add_int (k _ s.heap (s.toks + 1) .rfl ⟨_, rfl⟩)
theorem Bi.sub_int {a b : Int} : Bi C V M (binaryOp .Sub) (.int a) (.int b) (.int (a - b)) := fun ok B _ _ s Q E hE tk r1 r2 k => by
  obtain ⟨t, rfl⟩ := r1; obtain ⟨u, rfl⟩ := r2
  exact PyProof.Rows.sub_int (k _ s.heap (s.toks + 1) .rfl ⟨_, rfl⟩)
theorem Bi.mod_int {a b : Int} (hb : b ≠ 0) : Bi C V M (binaryOp .Mod) (.int a) (.int b) (.int (a.fmod b)) := fun ok B _ _ s Q E hE tk r1 r2 k => by
  obtain ⟨t, rfl⟩ := r1; obtain ⟨u, rfl⟩ := r2
  exact PyProof.Rows.mod_int hb (k _ s.heap (s.toks + 1) .rfl ⟨_, rfl⟩)
theorem Bi.div_int {a b : Int} (hb : b ≠ 0) (hp : Builtin.divisionGoesByPylong a b = false) : Bi C V M (binaryOp .FloorDiv) (.int a) (.int b) (.int (a.fdiv b)) := fun ok B _ _ s Q E hE tk r1 r2 k => by
  obtain ⟨t, rfl⟩ := r1; obtain ⟨u, rfl⟩ := r2
  exact PyProof.Rows.floordiv_int hb (k _ s.heap (s.toks + 1) .rfl ⟨_, rfl⟩) (.inl hp)
theorem Bi.add_str {a b : Str} (hz : a.length + b.length ≤ sizeLine) : Bi C V M (binaryOp .Add) (.str a) (.str b) (.str (a ++ b)) := fun ok B _ _ s Q E hE tk r1 r2 k => by
  obtain ⟨t, rfl⟩ := r1; obtain ⟨u, rfl⟩ := r2
  exact PyProof.Rows.add_str (fun t' tk => k _ s.heap tk .rfl ⟨_, rfl⟩) hz
theorem Bi.eq_int {a b : Int} : Bi C V M (compareOp .Eq) (.int a) (.int b) (.bool (a == b)) := fun ok B _ _ s Q E hE tk r1 r2 k => by
  obtain ⟨t, rfl⟩ := r1; obtain ⟨u, rfl⟩ := r2
  exact PyProof.Rows.eq_int (k _ s.heap s.toks .rfl rfl)
theorem Bi.eq_str {a b : Str} : Bi C V M (compareOp .Eq) (.str a) (.str b) (.bool (a == b)) := fun ok B _ _ s Q E hE tk r1 r2 k => by
  obtain ⟨t, rfl⟩ := r1; obtain ⟨u, rfl⟩ := r2
  exact PyProof.Rows.eq_str (k _ s.heap s.toks .rfl rfl)
theorem Bi.lt_int {a b : Int} : Bi C V M (compareOp .Lt) (.int a) (.int b) (.bool (decide (a < b))) := fun ok B _ _ s Q E hE tk r1 r2 k => by
  obtain ⟨t, rfl⟩ := r1; obtain ⟨u, rfl⟩ := r2
  exact wpAny_lt_int (k _ s.heap s.toks .rfl rfl)
theorem Bi.gt_int {a b : Int} : Bi C V M (compareOp .Gt) (.int a) (.int b) (.bool (decide (a > b))) := fun ok B _ _ s Q E hE tk r1 r2 k => by
  obtain ⟨t, rfl⟩ := r1; obtain ⟨u, rfl⟩ := r2
  exact PyProof.Rows.gt_int (k _ s.heap s.toks .rfl rfl)
theorem Bi.le_int {a b : Int} : Bi C V M (compareOp .LtE) (.int a) (.int b) (.bool (decide (a ≤ b))) := fun ok B _ _ s Q E hE tk r1 r2 k => by
  obtain ⟨t, rfl⟩ := r1; obtain ⟨u, rfl⟩ := r2
  exact PyProof.Rows.le_int (k _ s.heap s.toks .rfl rfl)

/-- the frame's variables, a name anew -/
theorem lookup_cons_of {α : Type} {x y : Str} {p : α} {l : List (Str × α)} : List.lookup y ((x, p) :: l) = if y = x then some p else List.lookup y l := by
  rw [List.lookup_cons]
  by_cases h : y = x
  · subst h; simp
  · have : (y == x) = false := by simpa using h
    rw [this, if_neg h]
theorem Est.store {x : Str} {pv : PV} {v : Value} {B : Bs} {h h' : Heap} (hE : Est C B V M h) (hk : C.env.kindOf x = some .local) (hr : Rep C.w.params (C.look B M h) pv v) {m cm : Str → Option Value}
    (h2 : ∀ n c, C.env.cells.lookup n = some c → h.IsCell c (cm n))
    (h3 : ∀ x pv, V.lookup x = some pv → ∃ v, Rep C.w.params (C.look B M h) pv v ∧
      ((C.env.kindOf x = some .local ∧ m x = some v) ∨ ((C.env.kindOf x = some .cell ∨ C.env.kindOf x = some .free) ∧ (∃ c, C.env.cells.lookup x = some c) ∧ cm x = some v)))
    (hn : h'.Ns C.env.locals (fun y => if y = x then some v else m y)) (hs : Heap.SameBut C.env.locals h h') : Est C B ((x, pv) :: V) M h' where
  g := hE.g
  keep := fun b o e => hs.extBut b o (fun q => by subst q; rw [hE.newL] at e; cases e) (hE.keep b o e)
  liveX := fun a ha => by
    by_cases q : a = C.env.locals
    · obtain ⟨o, es, ep, e, _⟩ := hn; exact ⟨o, q ▸ e⟩
    · obtain ⟨o, e⟩ := hE.liveX a ha; exact ⟨o, hs.extBut a o q e⟩
  newL := hE.newL
  locC := hE.locC
  cells := hE.cells
  vars := by
    have hl : LookLe (C.look B M h) (C.look B M h') := vis_but (fun c o n e => hs.extBut c o n e) (List.mem_append_right _ List.mem_cons_self)
    refine ⟨_, cm, hn, fun n c e => (h2 n c e).sameBut hs (hE.locC (n, c) (mem_of_lookup e)), fun y qv e => ?_⟩
    rw [lookup_cons_of] at e
    by_cases q : y = x
    · subst q
      rw [if_pos rfl] at e; cases e
      exact ⟨v, hr.mono hl, .inl ⟨hk, by simp⟩⟩
    · rw [if_neg q] at e
      obtain ⟨v', r', z⟩ := h3 y qv e
      refine ⟨v', r'.mono hl, z.imp (fun ⟨a, b⟩ => ⟨a, by rw [if_neg q]; exact b⟩) id⟩
  own := fun p hp => by
    have hl : LookLe (C.look B M h) (C.look B M h') := vis_but (fun c o n e => hs.extBut c o n e) (List.mem_append_right _ List.mem_cons_self)
    refine ⟨(hE.own p hp).1.move hl fun o e => hs.extBut _ _ (fun q => (hE.own p hp).2.2 ?_) e, (hE.own p hp).2⟩
    show p.1 ∈ C.env.locals :: _
    rw [q]; exact List.mem_cons_self
  apart := hE.apart
theorem Est.storeC {x : Str} {pv : PV} {v : Value} {B : Bs} {h h' : Heap} {c : Addr} (hE : Est C B V M h) (hw : C.wr = true) (hk : C.env.kindOf x = some .cell) (hc : C.env.cells.lookup x = some c) (hr : Rep C.w.params (C.look B M h) pv v) {m cm : Str → Option Value}
    (h1 : h.Ns C.env.locals m) (h2 : ∀ n c, C.env.cells.lookup n = some c → h.IsCell c (cm n))
    (h3 : ∀ x pv, V.lookup x = some pv → ∃ v, Rep C.w.params (C.look B M h) pv v ∧
      ((C.env.kindOf x = some .local ∧ m x = some v) ∨ ((C.env.kindOf x = some .cell ∨ C.env.kindOf x = some .free) ∧ (∃ c, C.env.cells.lookup x = some c) ∧ cm x = some v)))
    (hn : h'.IsCell c (some v)) (hs : Heap.SameBut c h h') : Est C B ((x, pv) :: V) M h' := by
  have hcm := mem_of_lookup hc
  have hch : c ∈ C.hb B := List.mem_cons_of_mem _ (List.mem_append_left _ (List.mem_map.mpr ⟨_, hcm, rfl⟩))
  have hl : LookLe (C.look B M h) (C.look B M h') := vis_but (fun c o n e => hs.extBut c o n e) (List.mem_append_right _ hch)
  exact {
    g := hE.g
    keep := fun b o e => hs.extBut b o (fun q => by have := (hE.cells hw).1 _ hcm; rw [← q, e] at this; cases this) (hE.keep b o e)
    liveX := fun a ha => by
      by_cases q : a = c
      · obtain ⟨o, e, _⟩ := hn; exact ⟨o, q ▸ e⟩
      · obtain ⟨o, e⟩ := hE.liveX a ha; exact ⟨o, hs.extBut a o q e⟩
    newL := hE.newL
    locC := hE.locC
    cells := hE.cells
    vars := by
      refine ⟨m, (fun y => if y = x then some v else cm y), h1.sameBut hs (Ne.symm (hE.locC _ hcm)), fun n c' e => ?_, fun y qv e => ?_⟩
      · by_cases q : n = x
        · subst q; rw [hc] at e; cases e; simpa using hn
        · simp only [if_neg q]
          exact (h2 n c' e).sameBut hs fun z => q (name_of_addr (hE.cells hw).2 (mem_of_lookup e) (z ▸ hcm))
      · rw [lookup_cons_of] at e
        by_cases q : y = x
        · subst q
          rw [if_pos rfl] at e; cases e
          exact ⟨v, hr.mono hl, .inr ⟨.inl hk, ⟨c, hc⟩, by simp⟩⟩
        · rw [if_neg q] at e
          obtain ⟨v', r', z⟩ := h3 y qv e
          exact ⟨v', r'.mono hl, z.imp id fun ⟨a, b, d⟩ => ⟨a, b, by simp only [if_neg q]; exact d⟩⟩
    own := fun p hp => ⟨(hE.own p hp).1.move hl fun o e => hs.extBut _ _ (fun q => (hE.own p hp).2.2 (q ▸ hch)) e, (hE.own p hp).2⟩
    apart := hE.apart }

/-- a store of a value in hand -/
theorem wp_store {x : Str} {pv : PV} {v : Value} {B : Bs} {s : Shared} {Q : Unit → Shared → Prop} {E : Value → Shared → Prop} (ok : C.Ok) (hk : C.env.kindOf x = some .local ∨ (C.wr = true ∧ C.env.kindOf x = some .cell ∧ (C.env.cells.lookup x).isSome = true)) (hE : Est C B V M s.heap)
    (hr : Rep C.w.params (C.look B M s.heap) pv v) (k : ∀ h' t', Est C B ((x, pv) :: V) M h' → Q () { s with heap := h', toks := t' }) : wpAny (model C.prog C.w) C.A (storeName C.env x v) Q E s := by
  obtain ⟨m, cm, h1, h2, h3⟩ := hE.vars
  rcases hk with hk | ⟨hw, hk, hc⟩
  · refine wpAny_storeName_local hk h1 (fun h' hn hs => k h' (s.toks + 1) (hE.store hk hr h2 h3 hn hs)) (by rw [ok.fn]; rfl)
  · obtain ⟨c, hc⟩ := Option.isSome_iff_exists.mp hc
    exact wpAny_storeName_cell ok.fn hk hc (h2 x c hc) fun h' hn hs => k h' s.toks (hE.storeC hw hk hc hr h1 h2 h3 hn hs)
end
end Mine

/-! LayC -/
namespace Mine
open PySem PySem.W PySem.Calls PyProof.Rows
set_option Elab.async false
section
variable {C : Cx} {V : Vars} {M : Owns} {K : Cont}

def Cx.St (C : Cx) (x : Str) : Prop := C.env.kindOf x = some .local ∨ (C.wr = true ∧ C.env.kindOf x = some .cell ∧ (C.env.cells.lookup x).isSome = true)

theorem EX1.assign {x : Str} {pos' pos : Pos} {e : Expr} {pv : PV} (hk : C.St x) (hv : EV C V M e pv) (hs : swapsWith e (some (.Name x pos')) pos.line C.env = pure false) (h : K .next ((x, pv) :: V) M) :
    EX1 C V M (.Assign [.Name x pos'] e pos) K := fun ok B s Q E hE tk k => by
  refine wpAny_Assign_Name (hv.then ok hE tk fun v h1 t1 k1 e1 p1 r1 => ?_) hs
  exact wp_store ok (s := { s with heap := h1, toks := t1 }) hk e1 r1 fun h2 t2 e2 => k .next .next _ _ h2 t2 e2 rfl h

/-- a tree that makes a list -/
def SN (C : Cx) (V : Vars) (M : Owns) (t : Sem Value) (l : List PV) : Prop :=
  C.Ok → ∀ (B : Bs) (s : Shared) (Q : Value → Shared → Prop) (E : Value → Shared → Prop), Est C B V M s.heap → 0 < s.toks →
    (∀ a vs n h' t', s.heap.get? a = none → h'.get? a = some (listObj vs n) → RepL C.w.params (C.look B M h') l vs → Keep s.heap h' → Q (.ref a) { s with heap := h', toks := t' }) → wpAny (model C.prog C.w) C.A t Q E s
theorem SN.sv {t : Sem Value} {l : List PV} (h : SN C V M t l) : SV C V M t (.list l) := fun ok B s Q E hE tk k =>
  h ok B s Q E hE tk fun a vs n h' t' e1 e2 r k1 => k _ h' t' k1 ⟨a, vs, n, rfl, vis_of e2 (hE.fresh e1), r⟩

theorem Est.add {B : Bs} {h : Heap} {a : Addr} {m : MO} (hE : Est C B V M h) (hn : a ∉ C.hid B M) (h0 : B.h₀.get? a = none) (hm : MRep C.w.params (C.look B M h) h a m)
    (hv : LookLe (C.look B M h) (C.look B ((a, m) :: M) h) ∨ ∃ h', Keep h' h ∧ h'.get? a = none ∧ Est C B V M h') (hmm : MRep C.w.params (C.look B ((a, m) :: M) h) h a m) : Est C B V ((a, m) :: M) h := by
  have hsub : ∀ h', h'.get? a = none → Keep h' h → LookLe (C.look B M h') (C.look B ((a, m) :: M) h) := fun h' e kp b o q => by
    obtain ⟨q1, q2⟩ := vis_get q
    refine vis_of (kp b o q1) fun z => ?_
    rcases List.mem_cons.mp (show b ∈ a :: (C.hid B M) from z) with z | z
    · subst z; rw [e] at q1; cases q1
    · exact q2 z
  have hloc : a ≠ C.env.locals := fun q => hn (by rw [q]; exact List.mem_append_right _ List.mem_cons_self)
  have fin : ∀ h', Est C B V M h' → Keep h' h → LookLe (C.look B M h') (C.look B ((a, m) :: M) h) → Est C B V ((a, m) :: M) h := fun h' x kp hl => {
    g := x.g
    keep := x.keep.trans kp
    liveX := fun b hb => let ⟨o, e⟩ := x.liveX b hb; ⟨o, kp b o e⟩
    newL := x.newL
    locC := x.locC
    cells := x.cells
    vars := by
      obtain ⟨m, cm, h1, h2, h3⟩ := x.vars
      refine ⟨m, cm, h1.keeps kp, fun n c e => (h2 n c e).keeps kp, fun y pv e => ?_⟩
      obtain ⟨v, r, q⟩ := h3 y pv e
      exact ⟨v, r.get hl, q⟩
    own := fun p hp => by
      rcases List.mem_cons.mp hp with q | q
      · subst q; exact ⟨hmm, h0, fun z => hn (List.mem_append_right _ z)⟩
      · exact ⟨(x.own p q).1.move hl fun o e => kp _ o e, (x.own p q).2⟩
    apart := List.nodup_cons.mpr ⟨fun z => hn (List.mem_append_left _ z), x.apart⟩ }
  rcases hv with hl | ⟨h', kp, e, x⟩
  · exact fin h hE .rfl hl
  · exact fin h' x kp (hsub h' e kp)

theorem Bs.none_of {B : Bs} {h : Heap} {a : Addr} (k : Keep B.h₀ h) (e : h.get? a = none) : B.h₀.get? a = none := by
  cases q : B.h₀.get? a with
  | none => rfl
  | some o => rw [k a o q] at e; cases e

theorem look_new {B : Bs} {h h' : Heap} {a : Addr} {m : MO} (e : h.get? a = none) (kp : Keep h h') : LookLe (C.look B M h) (C.look B ((a, m) :: M) h') := fun b o q => by
  obtain ⟨q1, q2⟩ := vis_get q
  refine vis_of (kp b o q1) fun z => ?_
  rcases List.mem_cons.mp (show b ∈ a :: (C.hid B M) from z) with z | z
  · subst z; rw [e] at q1; cases q1
  · exact q2 z

/-- an empty list, made to be filled -/
theorem EX1.newList {x : Str} {pos' pos lp : Pos} (hk : C.St x) (h : ∀ a, K .next ((x, .at a) :: V) ((a, .list []) :: M)) :
    EX1 C V M (.Assign [.Name x pos'] (.List [] lp) pos) K := fun ok B s Q E hE tk k => by
  refine wpAny_Assign_Name (wpAny_List (wpAny_items_nil ⟨Nat.zero_le _, ?_⟩)) rfl
  have e0 := get_size s.heap
  have kp : Keep s.heap (s.heap.push (listObj [] 0)) := Keep.rfl.push _
  have e1 : (s.heap.push (listObj [] 0)).get? s.heap.objs.size = some (listObj [] 0) := Heap.get?_push_size _ rfl
  have x := (hE.kept kp).add (a := s.heap.objs.size) (m := .list []) (hE.fresh e0) (Bs.none_of hE.keep e0) ⟨[], 0, e1, rfl⟩ (.inr ⟨s.heap, kp, e0, hE⟩) ⟨[], 0, e1, rfl⟩
  exact wp_store ok (s := { s with heap := s.heap.push (listObj [] 0), toks := s.toks }) hk x (pv := .at s.heap.objs.size) rfl fun h2 t2 e2 => k .next .next _ _ h2 t2 e2 rfl (h _)

theorem EX1.ret {e : Expr} {pos : Pos} {pv : PV} (hv : EV C V M e pv) (h : K (.ret pv) V M) : EX1 C V M (.Return (some e) pos) K := fun ok B s Q E hE tk k =>
  wpAny_Return_some (hv.then ok hE tk fun v h1 t1 k1 e1 p1 r1 => k (.ret pv) (.ret v) _ _ h1 t1 e1 ⟨v, rfl, r1.get (vis_sub fun _ q => List.mem_append_right _ q)⟩ h)
/-- an owned list handed out -/
theorem EX1.retOwn {e : Expr} {pos : Pos} {a : Addr} {l : List PV} (hv : EV C V M e (.at a)) (hm : (a, MO.list l) ∈ M) (h : K (.ret (.list l)) V M) : EX1 C V M (.Return (some e) pos) K := fun ok B s Q E hE tk k =>
  wpAny_Return_some (hv.then ok hE tk fun v h1 t1 k1 e1 p1 r1 => by
    cases r1
    obtain ⟨⟨vs, n, q, r⟩, _, q2⟩ := e1.own _ hm
    exact k (.ret (.list l)) (.ret (.ref a)) _ _ h1 t1 e1 ⟨_, rfl, a, vs, n, rfl, vis_of q q2, RepL.mono (vis_sub fun _ q => List.mem_append_right _ q) _ r⟩ h)
theorem EX1.ite {test : Expr} {body orelse : List Stmt} {pos : Pos} {b : Bool} (ht : ET C V M test b) (h1 : b = true → EX C V M body K) (h2 : b = false → EX C V M orelse K) : EX1 C V M (.If test body orelse pos) K := fun ok B s Q E hE tk k => by
  refine wpAny_If (ht.then ok hE tk fun h' t' kp e1 p1 => ?_)
  cases b
  · exact h2 rfl ok B { s with heap := h', toks := t' } Q E e1 p1 k
  · exact h1 rfl ok B { s with heap := h', toks := t' } Q E e1 p1 k
theorem EX1.brk {pos : Pos} (h : K .brk V M) : EX1 C V M (.Break pos) K := fun ok B s Q E hE tk k => wpAny_Break (k .brk .brk _ _ s.heap s.toks hE rfl h)
theorem EX1.assert {test : Expr} {msg : Option Expr} {pos : Pos} (ht : ET C V M test true) (h : K .next V M) : EX1 C V M (.Assert test msg pos) K := fun ok B s Q E hE tk k =>
  wpAny_Assert_holds (ht.then ok hE tk fun h' t' kp e1 _ => ⟨rfl, k .next .next _ _ h' t' e1 rfl h⟩)
theorem EX1.aug {x : Str} {e : Expr} {op : Operator} {p1 pos : Pos} {p q z : PV} (hk : C.env.kindOf x = some .local) (hx : V.lookup x = some p) (hv : EV C V M e q) (ho : Bi C V M (inplaceOp op) p q z) (h : K .next ((x, z) :: V) M) :
    EX1 C V M (.AugAssign (.Name x p1) op e pos) K := fun ok B s Q E hE tk k => by
  refine wpAny_AugAssign_Name ?_
  obtain ⟨m, cm, h1, h2, h3⟩ := hE.vars
  obtain ⟨v, r, z⟩ := h3 x p hx
  rcases z with ⟨_, z⟩ | ⟨z, _⟩
  · refine wpAny_loadName_local ok.fn hk h1 z (hv.then ok hE tk fun b h2 t2 k2 e2 p2 r2 => ?_)
    refine ho ok B v b { s with heap := h2, toks := t2 } _ E e2 p2 (r.get (vis_keep k2)) r2 fun c h3 t3 k3 r3 => ?_
    exact wp_store ok (s := { s with heap := h3, toks := t3 }) (.inl hk) (e2.kept k3) r3 fun h4 t4 e4 => k .next .next _ _ h4 t4 e4 rfl h
  · rw [hk] at z; rcases z with z | z <;> cases z

/-- expressions in a row -/
def EVs (C : Cx) (V : Vars) (M : Owns) : List Expr → List PV → Prop
  | [], ps => ps = []
  | e :: es, ps => ∃ p r, ps = p :: r ∧ EV C V M e p ∧ EVs C V M es r
theorem EVs.nil : EVs C V M [] [] := rfl
theorem EVs.cons {e : Expr} {es : List Expr} {p : PV} {ps : List PV} (h : EV C V M e p) (h2 : EVs C V M es ps) : EVs C V M (e :: es) (p :: ps) := ⟨p, ps, rfl, h, h2⟩
theorem EVs.len : ∀ {es : List Expr} {ps : List PV}, EVs C V M es ps → ps.length = es.length
  | [], _, h => by cases h; rfl
  | _ :: _, _, h => by obtain ⟨p, r, rfl, _, h2⟩ := h; simp [EVs.len h2]
theorem EVs.run : ∀ {es : List Expr} {ps : List PV}, EVs C V M es ps → ∀ {pos : Pos}, C.Ok → ∀ {B : Bs} {s : Shared} {Q : List Value → Shared → Prop} {E : Value → Shared → Prop}, Est C B V M s.heap → 0 < s.toks →
    (∀ vs h' t', Keep s.heap h' → Est C B V M h' → 0 < t' → RepL C.w.params (C.look B M h') ps vs → Q vs { s with heap := h', toks := t' }) →
    wpAny (model C.prog C.w) C.A (spliced (backTo pos (es.map fun e => (false, eval e C.env)))) Q E s
  | [], _, h, _, ok, B, s, Q, E, hE, tk, k => by cases h; exact Calls.spliced_nil (k [] s.heap s.toks .rfl hE tk rfl)
  | e :: es, _, h, pos, ok, B, s, Q, E, hE, tk, k => by
    obtain ⟨p, r, rfl, h1, h2⟩ := h
    refine Calls.spliced_cons (rest := backTo pos (es.map fun e => (false, eval e C.env))) (h1.then ok hE tk fun v h' t' kp e1 p1 r1 => ?_)
    exact h2.run ok (s := { s with heap := h', toks := t' }) e1 p1 fun vs h'' t'' kp2 e2 p2 r2 => k (v :: vs) h'' t'' (kp.trans kp2) e2 p2 ⟨v, vs, rfl, r1.get (vis_keep kp2), r2⟩
theorem EVs.args {es : List Expr} {ps : List PV} (h : EVs C V M es ps) {pos : Pos} {f : Value} (ok : C.Ok) {B : Bs} {s : Shared} {Q : Args → Shared → Prop} {E : Value → Shared → Prop} (hE : Est C B V M s.heap) (tk : 0 < s.toks)
    (k : ∀ vs h' t', Keep s.heap h' → Est C B V M h' → 0 < t' → RepL C.w.params (C.look B M h') ps vs → Q ⟨vs, []⟩ { s with heap := h', toks := t' }) :
    wpAny (model C.prog C.w) C.A (evalArgs f true (backTo pos (es.map fun e => (false, eval e C.env))) []) Q E s := by
  cases es with
  | nil => cases h; exact PySem.evalArgs_none (k [] s.heap s.toks .rfl hE tk rfl)
  | cons e es => exact Calls.evalArgs_plain (h.run (pos := pos) ok hE tk k)

theorem plain_any (pos : Pos) (es : List Expr) (env : Env) : (backTo pos (es.map fun e => (false, eval e env))).any (·.1) = false := by
  induction es with
  | nil => rfl
  | cons e es ih => exact ih

/-- what a built-in makes of values -/
def Bn (C : Cx) (V : Vars) (M : Owns) (id : String) (ps : List PV) (r : PV) : Prop :=
  C.Ok → ∀ (B : Bs) (vs : List Value) (s : Shared) (Q : Value → Shared → Prop) (E : Value → Shared → Prop), Est C B V M s.heap → 0 < s.toks → RepL C.w.params (C.look B M s.heap) ps vs →
    (∀ v h' t', Keep s.heap h' → Rep C.w.params (C.look B M h') r v → Q v { s with heap := h', toks := t' }) → wpAny (model C.prog C.w) C.A (call (.builtin id) vs) Q E s
theorem EV.callB {x : Str} {np pos : Pos} {es : List Expr} {ps : List PV} {id : String} {r : PV} (hf : EV C V M (.Name x np) (.val (.builtin id))) (hs : starEach es C.env = es.map fun e => (false, eval e C.env))
    (ha : EVs C V M es ps) (hb : Bn C V M id ps r) : EV C V M (.Call (.Name x np) es [] pos) r := fun ok B s Q E hE tk k => by
  refine wpAny_Call_NameR (hf.then ok hE tk fun v h1 t1 k1 e1 p1 r1 => ?_)
  cases r1
  rw [hs]
  refine Calls.callWith_builtin (plain_any _ _ _) (ha.args ok (s := { s with heap := h1, toks := t1 }) e1 p1 fun vs h2 t2 k2 e2 p2 r2 => ?_)
  exact hb ok B vs { s with heap := h2, toks := t2 } Q E e2 p2 r2 fun v h3 t3 k3 r3 => k v h3 t3 (k1.trans (k2.trans k3)) r3

structure Mth (T : String) (name : Str) (id : String) : Prop where
  pa : PlainAttrs T
  slot : Slot T name id
  ty : typeOf (.builtin id) = pure (.type "method_descriptor")
/-- the type of what stands for pv -/
def Ty (C : Cx) (M : Owns) (p : PV) (T : String) : Prop := ∀ (B : Bs) (V : Vars) (s : Shared) (v : Value), Est C B V M s.heap → Rep C.w.params (C.look B M s.heap) p v → s.TypeIs v T ∧ ∀ a, v = .ref a → ∃ ob, s.heap.get? a = some ob ∧ ob.dict = none
theorem Ty.str {x : Str} : Ty C M (.str x) "str" := fun B V s v hE r => by obtain ⟨t, rfl⟩ := r; exact ⟨typeIs_str _ _ _, fun _ e => nomatch e⟩
theorem Ty.list {l : List PV} : Ty C M (.list l) "list" := fun B V s v hE r => by
  obtain ⟨a, vs, n, rfl, e, _⟩ := r
  exact ⟨⟨_, (vis_get e).1, rfl⟩, fun b q => by cases q; exact ⟨_, (vis_get e).1, rfl⟩⟩
theorem Ty.dict {l : List (Str × PV)} : Ty C M (.dict l) "dict" := fun B V s v hE r => by
  obtain ⟨a, vs, n, rfl, _, e, _⟩ := r
  exact ⟨⟨_, (vis_get e).1, rfl⟩, fun b q => by cases q; exact ⟨_, (vis_get e).1, rfl⟩⟩
theorem Ty.own {a : Addr} {l : List PV} (hm : (a, MO.list l) ∈ M) : Ty C M (.at a) "list" := fun B V s v hE r => by
  cases r
  obtain ⟨⟨vs, n, q, _⟩, _⟩ := hE.own _ hm
  exact ⟨⟨_, q, rfl⟩, fun b z => by cases z; exact ⟨_, q, rfl⟩⟩
theorem EV.meth {o : Expr} {name : Str} {apos pos : Pos} {es : List Expr} {p : PV} {ps : List PV} {T id : String} {r : PV} (ho : EV C V M o p) (hs : starEach es C.env = es.map fun e => (false, eval e C.env)) (ha : EVs C V M es ps)
    (m : Mth T name id) (ht : Ty C M p T) (hb : Bn C V M id (p :: ps) r) (hbase : attributeBase o name C.env (eval o C.env) = eval o C.env) (hline : (apos.endLine == pos.line) = true) (hn : es.length < 20) :
    EV C V M (.Call (.Attribute o name apos) es [] pos) r := fun ok B s Q E hE tk k => by
  have hfew : ((backTo pos (starEach es C.env)).all (fun x => !x.1) && (backToKw pos (keywordEach [] C.env)).all (fun x => x.1.isSome) && decide (es.length + ([] : List Keyword).length + (if ([] : List Keyword).isEmpty then 0 else 1) < 30)) = true := by
    rw [hs]
    have h1 : (backTo pos (es.map fun e => (false, eval e C.env))).all (fun x => !x.1) = true := by
      clear hs ha hb ho hn
      induction es with
      | nil => rfl
      | cons e es ih => exact ih
    have h2 : decide (es.length + ([] : List Keyword).length + (if ([] : List Keyword).isEmpty then 0 else 1) < 30) = true := decide_eq_true (by simp; omega)
    rw [h1, h2]; rfl
  refine wpAny_Call_method_lateS hbase hfew hline (ho.then ok hE tk fun v h1 t1 k1 e1 p1 r1 => ?_)
  obtain ⟨hT, hd⟩ := ht B V { s with heap := h1, toks := t1 } v e1 r1
  refine ⟨T, id, m.pa, m.slot, m.ty, hT, hd, ?_⟩
  rw [hs]
  refine Calls.callWith_builtin (plain_any _ _ _) (ha.args ok (s := { s with heap := h1, toks := t1 }) e1 p1 fun vs h2 t2 k2 e2 p2 r2 => ?_)
  exact hb ok B (v :: vs) { s with heap := h2, toks := t2 } Q E e2 p2 ⟨v, vs, rfl, r1.get (vis_keep k2), r2⟩ fun v h3 t3 k3 r3 => k v h3 t3 (k1.trans (k2.trans k3)) r3

/-- an owned object put anew -/
theorem Est.upd {B : Bs} {h h' : Heap} {a : Addr} {m m' : MO} {M₁ M₂ : Owns} (hE : Est C B V (M₁ ++ (a, m) :: M₂) h) (hs : Heap.SameBut a h h') (hm : MRep C.w.params (C.look B (M₁ ++ (a, m) :: M₂) h') h' a m') : Est C B V (M₁ ++ (a, m') :: M₂) h' := by
  have hk : (M₁ ++ (a, m') :: M₂).map (·.1) = (M₁ ++ (a, m) :: M₂).map (·.1) := by simp
  have hh : ∀ B, C.hid B (M₁ ++ (a, m') :: M₂) = C.hid B (M₁ ++ (a, m) :: M₂) := fun B => by unfold Cx.hid; rw [hk]
  have hin : (a, m) ∈ M₁ ++ (a, m) :: M₂ := List.mem_append_right _ List.mem_cons_self
  obtain ⟨_, q0, q1⟩ := hE.own _ hin
  have hl : LookLe (C.look B (M₁ ++ (a, m) :: M₂) h) (C.look B (M₁ ++ (a, m') :: M₂) h') := by
    unfold Cx.look; rw [hh]
    exact vis_but (fun c o n e => hs.extBut c o n e) (List.mem_append_left _ (List.mem_map.mpr ⟨_, hin, rfl⟩))
  have hne : ∀ p ∈ M₁ ++ M₂, p.1 ≠ a := fun p hp q => by
    have ap := hE.apart
    rw [List.map_append, List.map_cons] at ap
    have ap2 := (List.nodup_append.mp ap)
    rcases List.mem_append.mp hp with z | z
    · exact ap2.2.2 p.1 (List.mem_map.mpr ⟨p, z, rfl⟩) a List.mem_cons_self q
    · exact (List.nodup_cons.mp ap2.2.1).1 (q ▸ List.mem_map.mpr ⟨p, z, rfl⟩)
  have hlive : ∃ o, h'.get? a = some o := hm.live
  exact {
    g := hE.g
    keep := fun b o e => hs.extBut b o (fun q => by subst q; rw [q0] at e; cases e) (hE.keep b o e)
    liveX := fun b hb => by
      obtain ⟨o, e⟩ := hE.liveX b hb
      exact ⟨o, hs.extBut b o (fun q => q1 (q ▸ hb)) e⟩
    newL := hE.newL
    locC := hE.locC
    cells := hE.cells
    vars := by
      obtain ⟨mm, cm, h1, h2, h3⟩ := hE.vars
      refine ⟨mm, cm, h1.sameBut hs (fun q => q1 (q ▸ List.mem_cons_self)), fun n c e => (h2 n c e).sameBut hs fun q => q1 ?_, fun y pv e => ?_⟩
      · exact q ▸ List.mem_cons_of_mem _ (List.mem_append_left _ (List.mem_map.mpr ⟨_, mem_of_lookup e, rfl⟩))
      · obtain ⟨v, r, q⟩ := h3 y pv e
        exact ⟨v, r.get hl, q⟩
    own := fun p hp => by
      rcases List.mem_append.mp hp with z | z
      · have hp' : p ∈ M₁ ++ (a, m) :: M₂ := List.mem_append_left _ z
        exact ⟨(hE.own p hp').1.move hl fun o e => hs.extBut _ _ (hne p (List.mem_append_left _ z)) e, (hE.own p hp').2⟩
      · rcases List.mem_cons.mp z with z | z
        · subst z
          refine ⟨hm.move (by unfold Cx.look; rw [hh]; exact .rfl) fun _ e => e, q0, q1⟩
        · have hp' : p ∈ M₁ ++ (a, m) :: M₂ := List.mem_append_right _ (List.mem_cons_of_mem _ z)
          exact ⟨(hE.own p hp').1.move hl fun o e => hs.extBut _ _ (hne p (List.mem_append_right _ z)) e, (hE.own p hp').2⟩
    apart := by rw [hk]; exact hE.apart }
theorem mth_append : Mth "list" "append" "list.append" := ⟨F.plainAttrs_list, slot_list_append, by exact F.type_list_append⟩
end
end Mine

/-! LayD -/
namespace Mine
open PySem PySem.W PySem.Calls PyProof.Rows
set_option Elab.async false
section
variable {C : Cx} {V : Vars} {M : Owns} {K : Cont}

def KeepBut (wr : List Addr) (h h' : Heap) : Prop := ∀ b o, b ∉ wr → h.get? b = some o → h'.get? b = some o

/-- what e hands a loop -/
def It (C : Cx) (V : Vars) (M : Owns) (e : Expr) (items : List PV) : Prop :=
  C.Ok → ∀ (B : Bs) (s : Shared) (Q : Value → Shared → Prop) (E : Value → Shared → Prop), Est C B V M s.heap → 0 < s.toks →
    (∀ I fp wr P St h' t', Keep s.heap h' → Walks C.prog C.w C.A I fp wr items.length P St → St 0 h' → (∀ b ∈ wr, s.heap.get? b = none) → (∀ i h, St i h → ∀ b ∈ wr, ∃ o, h.get? b = some o) →
      (∀ b ∈ fp, b ∈ wr ∨ ∃ o, vis h' (wr ++ C.hid B M) b = some o) → (∀ i p v, items[i]? = some p → P i v → Rep C.w.params (vis h' (wr ++ C.hid B M)) p v) → 0 < t' → Q (.ref I) { s with heap := h', toks := t' }) →
    wpAny (model C.prog C.w) C.A (eval e C.env) (fun x s₁ => wpAny (model C.prog C.w) C.A (pyIter x) Q E s₁) E s

theorem Est.rebaseW {B : Bs} {h h1 : Heap} {wr : List Addr} (x : Est C B V M h) (kp : Keep h h1) (hw : ∀ b ∈ wr, h.get? b = none) (hl : ∀ b ∈ wr, ∃ o, h1.get? b = some o) :
    Est C ⟨hideAll h1 (C.own M ++ wr), wr ++ B.X⟩ V M h1 := by
  have hnone : ∀ b ∈ wr, B.h₀.get? b = none := fun b hb => Bs.none_of x.keep (hw b hb)
  have hnh : ∀ b ∈ wr, b ∉ C.hid B M := fun b hb => x.fresh (hw b hb)
  have x1 := x.kept kp
  have hlook : LookLe (C.look B M h) (C.look ⟨hideAll h1 (C.own M ++ wr), wr ++ B.X⟩ M h1) := fun a o e => by
    obtain ⟨e1, n⟩ := vis_get e
    refine vis_of (kp a o e1) fun hm => ?_
    rcases List.mem_append.mp hm with q | q
    · exact n (List.mem_append_left _ q)
    · rcases List.mem_cons.mp q with q | q
      · exact n (List.mem_append_right _ (q ▸ List.mem_cons_self))
      · rcases List.mem_append.mp q with q | q
        · exact n (List.mem_append_right _ (List.mem_cons_of_mem _ (List.mem_append_left _ q)))
        · rcases List.mem_append.mp q with q | q
          · rw [hw a q] at e1; cases e1
          · exact n (List.mem_append_right _ (List.mem_cons_of_mem _ (List.mem_append_right _ q)))
  exact {
    g := x1.g.kept (x1.strip_keep wr hnone)
    keep := fun b o e => of_hideAll _ e
    liveX := fun a ha => by
      rcases List.mem_cons.mp ha with q | q
      · exact x1.liveX a (q ▸ List.mem_cons_self)
      · rcases List.mem_append.mp q with q | q
        · exact x1.liveX a (List.mem_cons_of_mem _ (List.mem_append_left _ q))
        · rcases List.mem_append.mp q with q | q
          · exact hl a q
          · exact x1.liveX a (List.mem_cons_of_mem _ (List.mem_append_right _ q))
    newL := hideAll_none _ (List.mem_append_left _ (List.mem_append_right _ List.mem_cons_self))
    locC := x.locC
    cells := fun w => ⟨fun p hp => hideAll_none _ (List.mem_append_left _ (List.mem_append_right _ (List.mem_cons_of_mem _ (by rw [if_pos w]; exact List.mem_map.mpr ⟨p, hp, rfl⟩)))), (x.cells w).2⟩
    vars := by
      obtain ⟨m, cm, h1', h2, h3⟩ := x.vars
      exact ⟨m, cm, h1'.keeps kp, fun n c e => (h2 n c e).keeps kp, fun y pv e => let ⟨v, r, q⟩ := h3 y pv e; ⟨v, r.get hlook, q⟩⟩
    own := fun p hp => by
      have hm : p.1 ∈ M.map (·.1) := List.mem_map.mpr ⟨p, hp, rfl⟩
      refine ⟨(x.own p hp).1.move hlook fun o e => kp _ o e, hideAll_none _ (List.mem_append_left _ (List.mem_append_left _ hm)), fun q => ?_⟩
      rcases List.mem_cons.mp q with q | q
      · exact (x.own p hp).2.2 (q ▸ List.mem_cons_self)
      · rcases List.mem_append.mp q with q | q
        · exact (x.own p hp).2.2 (List.mem_cons_of_mem _ (List.mem_append_left _ q))
        · rcases List.mem_append.mp q with q | q
          · exact hnh _ q (List.mem_append_left _ hm)
          · exact (x.own p hp).2.2 (List.mem_cons_of_mem _ (List.mem_append_right _ q))
    apart := x.apart }

/-- a step that touches unseen things alone -/
theorem Est.stepX {h₀ h h' : Heap} {wr X : List Addr} (x : Est C ⟨h₀, wr ++ X⟩ V M h) (kb : KeepBut wr h h') (hw : ∀ b ∈ wr, h₀.get? b = none) (hn : ∀ b ∈ wr, b ≠ C.env.locals ∧ ∀ p ∈ C.env.cells, b ≠ p.2) (hX : ∀ a ∈ X, a ∉ wr) : Est C ⟨h₀, X⟩ V M h' := by
  have hbw : ∀ b ∈ wr, b ∈ C.hb ⟨h₀, wr ++ X⟩ := fun b hb => List.mem_cons_of_mem _ (List.mem_append_right _ (List.mem_append_left _ hb))
  have hsub : ∀ a ∈ C.hb ⟨h₀, X⟩, a ∈ C.hb ⟨h₀, wr ++ X⟩ := Cx.hb_mono (B := ⟨h₀, wr ++ X⟩) (B' := ⟨h₀, X⟩) fun a ha => List.mem_append_right _ ha
  have hl : LookLe (C.look ⟨h₀, wr ++ X⟩ M h) (C.look ⟨h₀, X⟩ M h') := fun a o e => by
    obtain ⟨e1, n⟩ := vis_get e
    refine vis_of (kb a o (fun q => n (List.mem_append_right _ (hbw a q))) e1) fun q => n ?_
    rcases List.mem_append.mp q with q | q
    · exact List.mem_append_left _ q
    · exact List.mem_append_right _ (hsub a q)
  exact {
    g := x.g
    keep := fun b o e => kb b o (fun q => by have z := hw b q; have e' : h₀.get? b = some o := e; rw [z] at e'; cases e') (x.keep b o e)
    liveX := fun a ha => by
      obtain ⟨o, e⟩ := x.liveX a (hsub a ha)
      refine ⟨o, kb a o (fun q => ?_) e⟩
      rcases List.mem_cons.mp ha with z | z
      · exact (hn a q).1 z
      · rcases List.mem_append.mp z with z | z
        · obtain ⟨p, hp, rfl⟩ := List.mem_map.mp z
          exact (hn _ q).2 p hp rfl
        · exact hX a z q
    newL := x.newL
    locC := x.locC
    cells := x.cells
    vars := by
      obtain ⟨m, cm, ⟨o, es, ep, e1, e2⟩, h2, h3⟩ := x.vars
      refine ⟨m, cm, ⟨o, es, ep, kb _ _ (fun q => (hn _ q).1 rfl) e1, e2⟩, fun n c e => ?_, fun y pv e => let ⟨v, r, q⟩ := h3 y pv e; ⟨v, r.get hl, q⟩⟩
      obtain ⟨o', e3, e4⟩ := h2 n c e
      exact ⟨o', kb _ _ (fun q => (hn _ q).2 _ (mem_of_lookup e) rfl) e3, e4⟩
    own := fun p hp => ⟨(x.own p hp).1.move hl fun o e => kb _ o (fun q => (x.own p hp).2.2 (hbw _ q)) e, (x.own p hp).2.1, fun q => (x.own p hp).2.2 (hsub _ q)⟩
    apart := x.apart }
/-- the same, the unseen things still there -/
theorem Est.stepX' {h₀ h h' : Heap} {wr X : List Addr} (x : Est C ⟨h₀, wr ++ X⟩ V M h) (kb : KeepBut wr h h') (hw : ∀ b ∈ wr, h₀.get? b = none) (hn : ∀ b ∈ wr, b ≠ C.env.locals ∧ ∀ p ∈ C.env.cells, b ≠ p.2) (hX : ∀ a ∈ X, a ∉ wr)
    (hl : ∀ b ∈ wr, ∃ o, h'.get? b = some o) : Est C ⟨h₀, wr ++ X⟩ V M h' := by
  have hbw : ∀ b ∈ wr, b ∈ C.hb ⟨h₀, wr ++ X⟩ := fun b hb => List.mem_cons_of_mem _ (List.mem_append_right _ (List.mem_append_left _ hb))
  have y := x.stepX kb hw hn hX
  have hlk : LookLe (C.look ⟨h₀, wr ++ X⟩ M h) (C.look ⟨h₀, wr ++ X⟩ M h') := fun a o e => by
    obtain ⟨e1, n⟩ := vis_get e
    exact vis_of (kb a o (fun q => n (List.mem_append_right _ (hbw a q))) e1) n
  exact {
    g := x.g
    keep := y.keep
    liveX := fun a ha => by
      by_cases q : a ∈ wr
      · exact hl a q
      · obtain ⟨o, e⟩ := x.liveX a ha
        exact ⟨o, kb a o q e⟩
    newL := x.newL
    locC := x.locC
    cells := x.cells
    vars := by
      obtain ⟨m, cm, ⟨o, es, ep, e1, e2⟩, h2, h3⟩ := x.vars
      refine ⟨m, cm, ⟨o, es, ep, kb _ _ (fun q => (hn _ q).1 rfl) e1, e2⟩, fun n c e => ?_, fun y pv e => let ⟨v, r, q⟩ := h3 y pv e; ⟨v, r.get hlk, q⟩⟩
      obtain ⟨o', e3, e4⟩ := h2 n c e
      exact ⟨o', kb _ _ (fun q => (hn _ q).2 _ (mem_of_lookup e) rfl) e3, e4⟩
    own := fun p hp => ⟨(x.own p hp).1.move hlk fun o e => kb _ o (fun q => (x.own p hp).2.2 (hbw _ q)) e, (x.own p hp).2⟩
    apart := x.apart }

/-- a loop's end of a turn -/
abbrev Turned (K : Cont) (I : Vars → Owns → Prop) : Cont := fun fl V' M' => match fl with
  | .next => I V' M'
  | .cont => I V' M'
  | .brk => K .next V' M'
  | .ret q => K (.ret q) V' M'

theorem EX1.for {x : Str} {px pos : Pos} {iter : Expr} {body : List Stmt} {items : List PV} (I : List PV → Vars → Owns → Prop) (hx : C.env.kindOf x = some .local) (hi : It C V M iter items) (h0 : I [] V M)
    (turn : ∀ done p rest V' M', items = done ++ p :: rest → I done V' M' → EX C ((x, p) :: V') M' body (Turned K (I (done ++ [p]))))
    (fin : ∀ V' M', I items V' M' → K .next V' M') (hs : ∀ x, foldedSetIterable iter C.env x = pure x) : EX1 C V M (.For (.Name x px) iter body [] pos) K := fun ok B s Q E hE tk k => by
  refine wpAny_For (hi ok B s _ E hE tk fun It fp wr P St h1 t1 k1 W st0 hwf hlv hfp hP p1 => ?_) hs
  have hnh : ∀ b ∈ wr, b ∉ C.hid B M := fun b hb => hE.fresh (hwf b hb)
  have hwn : ∀ b ∈ wr, b ≠ C.env.locals ∧ ∀ p ∈ C.env.cells, b ≠ p.2 := fun b hb =>
    ⟨fun q => hnh b hb (List.mem_append_right _ (q ▸ List.mem_cons_self)), fun p hp q => hnh b hb (List.mem_append_right _ (List.mem_cons_of_mem _ (List.mem_append_left _ (q ▸ List.mem_map.mpr ⟨p, hp, rfl⟩))))⟩
  have hXw : ∀ a ∈ B.X, a ∉ wr := fun a ha hb => hnh a hb (List.mem_append_right _ (List.mem_cons_of_mem _ (List.mem_append_right _ ha)))
  have hbase : ∀ b ∈ wr, (hideAll h1 (C.own M ++ wr)).get? b = none := fun b hb => hideAll_none _ (List.mem_append_right _ hb)
  have E1 := hE.rebaseW k1 hwf (hlv 0 h1 st0)
  have kback : Keep B.h₀ (hideAll h1 (C.own M ++ wr)) := (hE.kept k1).strip_keep wr fun b hb => Bs.none_of hE.keep (hwf b hb)
  -- what is seen at the start is in the base
  have seen : LookLe (vis h1 (wr ++ C.hid B M)) (vis (hideAll h1 (C.own M ++ wr)) (C.hb ⟨hideAll h1 (C.own M ++ wr), wr ++ B.X⟩)) := fun a o e => by
    obtain ⟨e1, n⟩ := vis_get e
    have nw : a ∉ wr := fun q => n (List.mem_append_left _ q)
    have nh : a ∉ C.hid B M := fun q => n (List.mem_append_right _ q)
    refine vis_of (hideAll_get _ e1 fun hm => ?_) fun hm => ?_
    · rcases List.mem_append.mp hm with q | q
      · rcases List.mem_append.mp q with q | q
        · exact nh (List.mem_append_left _ q)
        · rcases List.mem_cons.mp q with q | q
          · exact nh (List.mem_append_right _ (q ▸ List.mem_cons_self))
          · split at q
            · exact nh (List.mem_append_right _ (List.mem_cons_of_mem _ (List.mem_append_left _ q)))
            · cases q
      · exact nw q
    · rcases List.mem_cons.mp hm with q | q
      · exact nh (List.mem_append_right _ (q ▸ List.mem_cons_self))
      · rcases List.mem_append.mp q with q | q
        · exact nh (List.mem_append_right _ (List.mem_cons_of_mem _ (List.mem_append_left _ q)))
        · rcases List.mem_append.mp q with q | q
          · exact nw q
          · exact nh (List.mem_append_right _ (List.mem_cons_of_mem _ (List.mem_append_right _ q)))
  refine codeAny_forLoop (I := fun n s' => ∃ done rest V' M' h' t', items = done ++ rest ∧ n = rest.length ∧ s' = { s with heap := h', toks := t' } ∧ I done V' M' ∧
    Est C ⟨hideAll h1 (C.own M ++ wr), wr ++ B.X⟩ V' M' h' ∧ 0 < t' ∧ St done.length h') ?_ items.length ⟨[], items, V, M, h1, t1, rfl, rfl, rfl, h0, E1, p1, st0⟩ (fun _ => rfl)
  rintro n s' ⟨done, rest, V', M', h', t', hit, rfl, rfl, hI, e1, pt, st⟩
  cases rest with
  | nil =>
    rw [List.append_nil] at hit; subst hit
    refine wpAny_tk (s := { s with heap := h', toks := t' }) pt (W.done _ _ _ st fun h'' t'' kb pt2 => ?_)
    refine wpAny_execs_nil ?_
    have e2 := (e1.stepX kb hbase hwn hXw).weaken kback hE.g
    exact k .next .next V' M' h'' t'' e2 rfl (fin V' M' hI)
  | cons p rest =>
    refine wpAny_tk (s := { s with heap := h', toks := t' }) pt (W.item done.length _ _ _ (by rw [hit]; simp) st fun v h'' t'' hp st' kb pt2 => ?_)
    have e2 := e1.stepX' kb hbase hwn hXw (hlv _ _ st')
    have r : Rep C.w.params (C.look ⟨hideAll h1 (C.own M ++ wr), wr ++ B.X⟩ M' h'') p v :=
      (hP done.length p v (by rw [hit]; simp) hp).get (seen.trans e2.base_look)
    have e3 := e2.rebase
    refine wpAny_assign_Name (wpAny_tk (s := { s with heap := h'', toks := t'' }) pt2 (wp_store ok (s := { s with heap := h'', toks := t'' }) (.inl hx) e3 r fun h3 t3 e4 pt3 => ?_))
    refine (turn done p rest V' M' hit hI).then ok (s := { s with heap := h3, toks := t3 }) e4 pt3 fun fl f V'' M'' h4 t4 e5 pt4 rf hK => ?_
    have e6 : Est C ⟨hideAll h1 (C.own M ++ wr), wr ++ B.X⟩ V'' M'' h4 := e2.back e5
    have st4 : St (done ++ [p]).length h4 := by
      rw [List.length_append]
      refine W.frame _ h'' h4 st' fun b hb o e => e5.keep b o (hideAll_get _ e fun hm => ?_)
      have hnb : b ≠ C.env.locals ∧ (∀ p ∈ C.env.cells, b ≠ p.2) ∧ ∀ q ∈ M', q.1 ≠ b := by
        rcases hfp b hb with hbw | ⟨o', q'⟩
        · refine ⟨(hwn b hbw).1, (hwn b hbw).2, fun q hq z => (e2.own q hq).2.2 (z ▸ ?_)⟩
          exact List.mem_cons_of_mem _ (List.mem_append_right _ (List.mem_append_left _ hbw))
        · obtain ⟨z1, z2⟩ := vis_get (seen _ _ q')
          refine ⟨fun z => z2 (z ▸ List.mem_cons_self), fun p hp z => z2 (List.mem_cons_of_mem _ (List.mem_append_left _ (z ▸ List.mem_map.mpr ⟨p, hp, rfl⟩))), fun q hq z => ?_⟩
          have := (e2.own q hq).2.1
          rw [z] at this
          have z1' : (hideAll h1 (C.own M ++ wr)).get? b = some o' := z1
          rw [z1'] at this; cases this
      rcases List.mem_append.mp hm with q | q
      · obtain ⟨p, hp, z⟩ := List.mem_map.mp q
        exact hnb.2.2 p hp z
      · rcases List.mem_cons.mp q with q | q
        · exact hnb.1 q
        · split at q
          · obtain ⟨p, hp, z⟩ := List.mem_map.mp q
            exact hnb.2.1 p hp z.symm
          · cases q
    have hit' : items = (done ++ [p]) ++ rest := by rw [hit]; simp
    cases fl with
    | next => cases rf; exact ⟨_, Nat.lt_succ_self _, done ++ [p], rest, V'', M'', h4, t4, hit', rfl, rfl, hK, e6, pt4, st4⟩
    | cont => cases rf; exact ⟨_, Nat.lt_succ_self _, done ++ [p], rest, V'', M'', h4, t4, hit', rfl, rfl, hK, e6, pt4, st4⟩
    | brk => cases rf; exact k .next .next V'' M'' h4 t4 ((e6.seeX fun a ha => List.mem_append_right _ ha).weaken kback hE.g) rfl hK
    | ret q =>
      obtain ⟨v', rfl, r'⟩ := rf
      exact k (.ret q) (.ret v') V'' M'' h4 t4 ((e6.seeX fun a ha => List.mem_append_right _ ha).weaken kback hE.g)
        ⟨v', rfl, r'.get (vis_sub (Cx.hb_mono fun a ha => List.mem_append_right _ ha))⟩ hK

theorem EX1.while {test : Expr} {body : List Stmt} {pos : Pos} (I : Nat → Vars → Owns → Prop) (n : Nat) (h0 : I n V M)
    (turn : ∀ n V' M', I n V' M' → ∃ b, ET C V' M' test b ∧ (b = true → EX C V' M' body (Turned K fun V'' M'' => ∃ m, m < n ∧ I m V'' M'')) ∧ (b = false → K .next V' M')) : EX1 C V M (.While test body [] pos) K := fun ok B s Q E hE tk k => by
  refine wpAny_While (codeAny_whileLoop (I := fun n s' => ∃ V' M' h' t', s' = { s with heap := h', toks := t' } ∧ I n V' M' ∧ Est C B V' M' h' ∧ 0 < t') ?_ n ⟨V, M, s.heap, s.toks, rfl, h0, hE, tk⟩)
  rintro n s' ⟨V', M', h', t', rfl, hI, e1, pt⟩
  obtain ⟨b, ht, hb, hf⟩ := turn n V' M' hI
  refine ht.then ok (s := { s with heap := h', toks := t' }) e1 pt fun h2 t2 k2 e2 p2 => ?_
  cases b with
  | false => exact wpAny_execs_nil (k .next .next V' M' h2 t2 e2 rfl (hf rfl))
  | true =>
    refine (hb rfl).then ok (s := { s with heap := h2, toks := t2 }) e2 p2 fun fl f V'' M'' h3 t3 e3 p3 rf hK => ?_
    cases fl with
    | next => cases rf; obtain ⟨m, hm, hI'⟩ := hK; exact ⟨m, hm, V'', M'', h3, t3, rfl, hI', e3, p3⟩
    | cont => cases rf; obtain ⟨m, hm, hI'⟩ := hK; exact ⟨m, hm, V'', M'', h3, t3, rfl, hI', e3, p3⟩
    | brk => cases rf; exact k .next .next V'' M'' h3 t3 e3 rfl hK
    | ret q => obtain ⟨v', rfl, r'⟩ := rf; exact k (.ret q) (.ret v') V'' M'' h3 t3 e3 ⟨v', rfl, r'⟩ hK

/-- the frame told otherwise: names forgotten, owned lists given up -/
theorem XT.tell {t : Sem Flow} {V' : Vars} {M' : Owns} (h : XT C V' M' t K) (hs : ∀ B h, Est C B V M h → Est C B V' M' h) : XT C V M t K := fun ok B s Q E hE tk k => h ok B s Q E (hs B _ hE) tk k
theorem Est.names {B : Bs} {h : Heap} {V' : Vars} (x : Est C B V M h) (hs : ∀ y p, V'.lookup y = some p → V.lookup y = some p) : Est C B V' M h :=
  { x with vars := let ⟨m, cm, h1, h2, h3⟩ := x.vars; ⟨m, cm, h1, h2, fun y p e => h3 y p (hs y p e)⟩ }
theorem XT.names {t : Sem Flow} {V' : Vars} (h : XT C V' M t K) (hs : ∀ y p, V'.lookup y = some p → V.lookup y = some p) : XT C V M t K := h.tell fun _ _ x => x.names hs
theorem Est.giveUp {B : Bs} {h : Heap} {V' : Vars} {M₁ M₂ : Owns} {a : Addr} {l : List PV} (x : Est C B V (M₁ ++ (a, .list l) :: M₂) h)
    (hs : ∀ y p, V'.lookup y = some p → V.lookup y = some p ∨ (V.lookup y = some (.at a) ∧ p = .list l) ∨ ∃ C', V.lookup y = some (.inst C' (.at a)) ∧ p = .inst C' (.list l)) : Est C B V' (M₁ ++ M₂) h := by
  have hsub : ∀ q ∈ M₁ ++ M₂, q ∈ M₁ ++ (a, MO.list l) :: M₂ := fun q hq => by
    rcases List.mem_append.mp hq with z | z
    · exact List.mem_append_left _ z
    · exact List.mem_append_right _ (List.mem_cons_of_mem _ z)
  have hl : LookLe (C.look B (M₁ ++ (a, .list l) :: M₂) h) (C.look B (M₁ ++ M₂) h) := vis_sub fun b hb => by
    rcases List.mem_append.mp hb with z | z
    · obtain ⟨p, hp, rfl⟩ := List.mem_map.mp z
      exact List.mem_append_left _ (List.mem_map.mpr ⟨p, hsub p hp, rfl⟩)
    · exact List.mem_append_right _ z
  have hin : (a, MO.list l) ∈ M₁ ++ (a, MO.list l) :: M₂ := List.mem_append_right _ List.mem_cons_self
  obtain ⟨⟨vs, n, e, r⟩, _, q1⟩ := x.own _ hin
  have ap := x.apart
  rw [List.map_append, List.map_cons] at ap
  have ap2 := List.nodup_append.mp ap
  have hna : a ∉ C.hid B (M₁ ++ M₂) := fun z => by
    rcases List.mem_append.mp z with z | z
    · obtain ⟨p, hp, rfl⟩ := List.mem_map.mp z
      rcases List.mem_append.mp hp with z | z
      · exact ap2.2.2 p.1 (List.mem_map.mpr ⟨p, z, rfl⟩) p.1 List.mem_cons_self rfl
      · exact (List.nodup_cons.mp ap2.2.1).1 (List.mem_map.mpr ⟨p, z, rfl⟩)
    · exact q1 z
  exact {
    g := x.g
    keep := x.keep
    liveX := x.liveX
    newL := x.newL
    locC := x.locC
    cells := x.cells
    vars := by
      obtain ⟨m, cm, h1, h2, h3⟩ := x.vars
      refine ⟨m, cm, h1, h2, fun y p e' => ?_⟩
      rcases hs y p e' with z | ⟨z, rfl⟩ | ⟨C', z, rfl⟩
      · obtain ⟨v, r', q⟩ := h3 y p z; exact ⟨v, r'.get hl, q⟩
      · obtain ⟨v, r', q⟩ := h3 y _ z
        cases r'
        exact ⟨_, ⟨a, vs, n, rfl, vis_of e hna, RepL.mono hl _ r⟩, q⟩
      · obtain ⟨v, ⟨ix, dx, m', t, u, rfl, g1, g2, g3⟩, q⟩ := h3 y _ z
        cases g3
        exact ⟨_, ⟨ix, dx, m', t, _, rfl, hl _ _ g1, hl _ _ g2, a, vs, n, rfl, vis_of e hna, RepL.mono hl _ r⟩, q⟩
    own := fun p hp => ⟨(x.own p (hsub p hp)).1.move hl fun _ e => e, (x.own p (hsub p hp)).2⟩
    apart := by
      rw [List.map_append]
      exact List.nodup_append.mpr ⟨ap2.1, (List.nodup_cons.mp ap2.2.1).2, fun b hb c hc => ap2.2.2 b hb c (List.mem_cons_of_mem _ hc)⟩ }
theorem XT.giveUp {t : Sem Flow} {V' : Vars} {M₁ M₂ : Owns} {a : Addr} {l : List PV} (h : XT C V' (M₁ ++ M₂) t K)
    (hs : ∀ y p, V'.lookup y = some p → V.lookup y = some p ∨ (V.lookup y = some (.at a) ∧ p = .list l) ∨ ∃ C', V.lookup y = some (.inst C' (.at a)) ∧ p = .inst C' (.list l)) : XT C V (M₁ ++ (a, .list l) :: M₂) t K := h.tell fun _ _ x => x.giveUp hs
end
end Mine

/-! LayE -/
namespace Mine
open PySem PySem.W PySem.Calls PyProof.Rows
set_option Elab.async false
section
variable {C : Cx} {V : Vars} {M : Owns} {K : Cont}

theorem vis_two {h : Heap} {X Y : List Addr} {a : Addr} {o : Obj} (e : vis h X a = some o) (n : a ∉ Y) : vis h (Y ++ X) a = some o := by
  obtain ⟨e1, e2⟩ := vis_get e
  exact vis_of e1 fun q => (List.mem_append.mp q).elim n e2

theorem It.list {e : Expr} {l : List PV} (h : EV C V M e (.list l)) : It C V M e l := fun ok B s Q E hE tk k => by
  refine h.then ok hE tk fun v h1 t1 k1 e1 p1 r1 => ?_
  obtain ⟨a, vs, n, rfl, ha, hr⟩ := r1
  obtain ⟨ha1, ha2⟩ := vis_get ha
  refine wpAny_pyIter_list ⟨_, ha1, rfl, n, rfl⟩ ?_
  have e0 := get_size h1
  have hne : a ≠ h1.objs.size := fun q => by rw [q, e0] at ha1; cases ha1
  have kp : Keep h1 (h1.push { cls := .type "list_iterator", data := .fields #[.ref a, .int 0 0] }) := Keep.rfl.push _
  have hlen : vs.toArray.size = l.length := by rw [List.size_toArray]; exact hr.len
  refine k h1.objs.size [h1.objs.size, a] [h1.objs.size] _ _ _ t1 (k1.trans kp) (hlen ▸ Walks.list ok.hh h1.objs.size a hne vs.toArray) ⟨⟨_, Heap.get?_push_size _ rfl, rfl, rfl⟩, ⟨_, kp _ _ ha1, rfl, n, rfl⟩⟩ ?_ ?_ ?_ ?_ p1
  · intro b hb; rw [List.mem_singleton.mp hb]
    cases q : s.heap.get? h1.objs.size with
    | none => rfl
    | some o => rw [k1 _ _ q] at e0; cases e0
  · rintro i h ⟨⟨o, ho, _⟩, _⟩ b hb; rw [List.mem_singleton.mp hb]; exact ⟨o, ho⟩
  · intro b hb
    rcases List.mem_cons.mp hb with q | q
    · exact .inl (by rw [q]; exact List.mem_singleton.mpr rfl)
    · rw [List.mem_singleton.mp q]
      exact .inr ⟨_, vis_two (vis_keep kp _ _ ha) fun z => hne (List.mem_singleton.mp z)⟩
  · intro i p v hp hv
    obtain ⟨v', hv', r⟩ := hr.get hp
    have : v = v' := by
      have hv2 : vs[i]? = some v := by simpa using hv
      rw [hv'] at hv2; cases hv2; rfl
    subst this
    refine r.get fun b o q => ?_
    obtain ⟨q1, q2⟩ := vis_get q
    exact vis_two (vis_of (kp _ _ q1) q2) fun z => by
      rw [List.mem_singleton.mp z, e0] at q1; cases q1

theorem It.sign {x : Str} {h h1 : Heap} {t : Tok} {X : List Addr} (i : Nat) (p : PV) (v : Value) (hp : (x.cps.toList.map fun c => PV.str ⟨#[c]⟩)[i]? = some p) (hv : SignAt x i v) {P : Params} {L : Look} : Rep P L p v := by
  obtain ⟨c, u, hc, rfl⟩ := hv
  rw [List.getElem?_map, Array.getElem?_toList, hc] at hp
  cases hp
  exact ⟨u, rfl⟩
theorem It.str {e : Expr} {x : Str} (h : EV C V M e (.str x)) : It C V M e (x.cps.toList.map fun c => .str ⟨#[c]⟩) := fun ok B s Q E hE tk k => by
  refine h.then ok hE tk fun v h1 t1 k1 e1 p1 r1 => ?_
  obtain ⟨t, rfl⟩ := r1
  have e0 := get_size h1
  have hlen : x.cps.size = (x.cps.toList.map fun c => PV.str ⟨#[c]⟩).length := by simp
  have hfr : ∀ b ∈ [h1.objs.size], s.heap.get? b = none := by
    intro b hb; rw [List.mem_singleton.mp hb]
    cases q : s.heap.get? h1.objs.size with
    | none => rfl
    | some o => rw [k1 _ _ q] at e0; cases e0
  cases ha : x.cps.all (· < 128) with
  | false =>
    refine wpAny_pyIter_wide ha ?_
    refine k h1.objs.size [h1.objs.size] [h1.objs.size] _ _ _ t1 (k1.trans (Keep.rfl.push _)) (hlen ▸ Walks.strWide ok.hh h1.objs.size x t) ⟨_, Heap.get?_push_size _ rfl, rfl, rfl⟩ hfr ?_ (fun b hb => .inl hb) ?_ p1
    · rintro i h ⟨o, ho, _⟩ b hb; rw [List.mem_singleton.mp hb]; exact ⟨o, ho⟩
    · intro i p v hp hv; exact It.sign (h := h1) (h1 := h1) (t := t) (X := []) i p v hp hv
  | true =>
    refine wpAny_pyIter_ascii ha ?_
    refine k h1.objs.size [h1.objs.size] [h1.objs.size] _ _ _ t1 (k1.trans (Keep.rfl.push _)) (hlen ▸ Walks.strAscii ok.hh h1.objs.size x t) ⟨_, Heap.get?_push_size _ rfl, rfl, rfl⟩ hfr ?_ (fun b hb => .inl hb) ?_ p1
    · rintro i h ⟨o, ho, _⟩ b hb; rw [List.mem_singleton.mp hb]; exact ⟨o, ho⟩
    · intro i p v hp hv; exact It.sign (h := h1) (h1 := h1) (t := t) (X := []) i p v hp hv

def upFrom (a : Int) (n : Nat) : List PV := (List.range n).map fun (i : Nat) => PV.int (a + i)
theorem upFrom_get {a : Int} {n i : Nat} {p : PV} (h : (upFrom a n)[i]? = some p) : p = .int (a + i) := by
  unfold upFrom at h
  rw [List.getElem?_map] at h
  by_cases q : i < n
  · rw [List.getElem?_range q] at h; cases h; rfl
  · rw [List.getElem?_eq_none (by simp; omega)] at h; cases h
theorem upFrom_len {a : Int} {n : Nat} : (upFrom a n).length = n := by simp [upFrom]
theorem range_walk {C : Cx} {M : Owns} {s : Shared} {h1 : Heap} {a b : Int} {t u v : Tok} {R : Obj} {B : Bs} {Q : Value → Shared → Prop} {E : Value → Shared → Prop} {t1 : Nat} (ok : C.Ok) (pt : 0 < t1) (k1 : Keep s.heap h1) (hsm : Builtin.Range.small a b 1 = true) (hr : R = { cls := .type "range", data := .fields #[.int a t, .int b u, .int 1 v] })
    (k : ∀ I fp wr P St h' t', Keep s.heap h' → Walks C.prog C.w C.A I fp wr (upFrom a (Builtin.Range.rangeSize a b 1).toNat).length P St → St 0 h' → (∀ b ∈ wr, s.heap.get? b = none) → (∀ i h, St i h → ∀ b ∈ wr, ∃ o, h.get? b = some o) →
      (∀ b ∈ fp, b ∈ wr ∨ ∃ o, vis h' (wr ++ C.hid B M) b = some o) → (∀ i p v, (upFrom a (Builtin.Range.rangeSize a b 1).toNat)[i]? = some p → P i v → Rep C.w.params (vis h' (wr ++ C.hid B M)) p v) → 0 < t' → Q (.ref I) { s with heap := h', toks := t' }) :
    wpAny (model C.prog C.w) C.A (pyIter (.ref h1.objs.size)) Q E { s with heap := h1.push R, toks := t1 } := by
  subst hr
  have hge : 0 ≤ Builtin.Range.rangeSize a b 1 := by rw [rangeSize_one]; split <;> omega
  refine wpAny_pyIter_range (IsRange.new h1 a b 1 t u v) hsm ?_
  have kp : Keep s.heap ((h1.push { cls := .type "range", data := .fields #[.int a t, .int b u, .int 1 v] }).push { cls := .type "range_iterator", data := .fields #[rawInt a, rawInt (Builtin.Range.rangeSize a b 1), rawInt 1] }) := (k1.push _).push _
  refine k _ [_] [_] _ _ _ t1 kp (by rw [upFrom_len]; exact Walks.range ok.hh _ a 1 _) ?_ ?_ ?_ (fun b hb => .inl hb) ?_ pt
  · rw [IsRangeIter]
    refine (Heap.get?_push_size _ rfl).trans ?_
    simp [rawInt, Int.toNat_of_nonneg hge]
  · intro c hc; rw [List.mem_singleton.mp hc]
    cases q : s.heap.get? (h1.push { cls := .type "range", data := .fields #[.int a t, .int b u, .int 1 v] }).objs.size with
    | none => rfl
    | some o => have e1 := (k1.push { cls := .type "range", data := .fields #[.int a t, .int b u, .int 1 v] }) _ _ q; rw [get_size] at e1; cases e1
  · intro i h hi c hc; rw [List.mem_singleton.mp hc]; exact ⟨_, hi⟩
  · intro i p v hp hv
    obtain ⟨tt, rfl⟩ := hv
    rw [upFrom_get hp]
    exact ⟨tt, by rw [Int.mul_one]⟩
theorem It.range1 {np rp : Pos} {e : Expr} {n : Int} (hf : EV C V M (.Name (Str.ofString "range") np) (.val (.type "range"))) (h : EV C V M e (.int n)) (hs : starEach [e] C.env = [(false, eval e C.env)]) (h0 : 0 ≤ n) (hn : n < 2 ^ 62) :
    It C V M (.Call (.Name (Str.ofString "range") np) [e] [] rp) (upFrom 0 n.toNat) := fun ok B s Q E hE tk k => by
  refine wpAny_Call_NameR (hf.then ok hE tk fun v h1 t1 k1 e1 p1 r1 => ?_)
  cases r1
  rw [hs]
  refine PySem.callWith_type1 (h.then ok (s := { s with heap := h1, toks := t1 }) e1 p1 fun v h2 t2 k2 e2 p2 r2 => ?_)
  obtain ⟨t, rfl⟩ := r2
  refine call_range_1 ?_
  have hsz : (Builtin.Range.rangeSize 0 n 1).toNat = n.toNat := by rw [rangeSize_one]; split <;> omega
  refine range_walk (s := s) (B := B) (M := M) ok (Nat.succ_pos _) (k1.trans k2) (small_one (by omega) (by omega) (by omega) hn) rfl ?_
  rw [hsz]; exact k
theorem It.range2 {np rp : Pos} {e e' : Expr} {a n : Int} (hf : EV C V M (.Name (Str.ofString "range") np) (.val (.type "range"))) (h : EV C V M e (.int a)) (h' : EV C V M e' (.int n)) (hs : starEach [e, e'] C.env = [(false, eval e C.env), (false, eval e' C.env)]) (h0 : 0 ≤ a) (h1 : a ≤ n) (hn : n < 2 ^ 62) :
    It C V M (.Call (.Name (Str.ofString "range") np) [e, e'] [] rp) (upFrom a (n - a).toNat) := fun ok B s Q E hE tk k => by
  refine wpAny_Call_NameR (hf.then ok hE tk fun v h1 t1 k1 e1 p1 r1 => ?_)
  cases r1
  rw [hs]
  refine PySem.callWith_type rfl (Calls.evalArgs_plain (Calls.spliced_cons (h.then ok (s := { s with heap := h1, toks := t1 }) e1 p1 fun v h2 t2 k2 e2 p2 r2 => ?_)))
  refine Calls.spliced_cons (h'.then ok (s := { s with heap := h2, toks := t2 }) e2 p2 fun v' h3 t3 k3 e3 p3 r3 => Calls.spliced_nil ?_)
  obtain ⟨t, rfl⟩ := r2
  obtain ⟨t', rfl⟩ := r3
  refine call_range_2 ?_
  have hsz : (Builtin.Range.rangeSize a n 1).toNat = (n - a).toNat := by rw [rangeSize_one]; split <;> omega
  refine range_walk (s := s) (B := B) (M := M) ok (Nat.succ_pos _) (k1.trans (k2.trans k3)) (small_one (by omega) (by omega) (by omega) hn) rfl ?_
  rw [hsz]; exact k

/-- a def of the text answers r to ps -/
def FnOk (prog : Program) (w : World) (mg mb : Str → Option Value) (K : List (Addr × Obj)) (f : Addr) (ps : List PV) (kw : List (Str × Value)) (r : PV) (d : Nat) : Prop :=
  ∀ (A : Around) (X : List Addr) (vs : List Value) (s : Shared) (R : Result → Shared → Prop), A.handled = none → A.units + 4 * d + 20 < cLine → A.depth + d + 5 < recursionLimit → Grd w.params mg mb K s.heap → 0 < s.toks →
    (∀ a ∈ X, ∃ o, s.heap.get? a = some o) → RepL w.params (vis s.heap X) ps vs → (∀ v h' t', Keep s.heap h' → Rep w.params (vis h' X) r v → R (.ok (.ret v)) { s with heap := h', toks := t' }) →
    codeAny (model prog w) A (.call (.ref f) ⟨vs, kw⟩) R s
def IsDef (K : List (Addr × Obj)) (f : Addr) (fd : FuncData) : Prop :=
  ∃ o, (f, o) ∈ K ∧ o.data = .func fd ∧ fd.closure = [] ∧ fd.globals = mainGlobals ∧ fd.builtins = builtinsNs ∧ fd.scope.kind = .function ∧ fd.scope.isGenerator = false ∧ fd.scope.isCoroutine = false ∧
    ∃ c oc vs t, fd.code = .ref c ∧ (c, oc) ∈ K ∧ oc.data = .fields vs ∧ vs[1]? = some (.str fd.qualname t)

theorem lookup_zip_mem {ps : List PV} {vs : List Value} {P : Params} {L : Look} : ∀ {names : List Str} {ps : List PV} {vs : List Value}, RepL P L ps vs → ps.length = names.length → ∀ x pv, (names.zip ps).lookup x = some pv → ∃ v, (x, v) ∈ names.zip vs ∧ Rep P L pv v
  | [], _, _, _, _, _, _, e => by simp at e
  | n :: names, [], _, _, hl, _, _, _ => by simp at hl
  | n :: names, p :: ps, _, h, hl, x, pv, e => by
    obtain ⟨v, r, rfl, h1, h2⟩ := h
    rw [List.zip_cons_cons, lookup_cons_of] at e
    by_cases q : x = n
    · subst q
      rw [if_pos rfl] at e; cases e
      exact ⟨v, List.mem_cons_self, h1⟩
    · rw [if_neg q] at e
      obtain ⟨v', hm, r'⟩ := lookup_zip_mem (ps := ps) (vs := r) h2 (by simpa using hl) x pv e
      exact ⟨v', List.mem_cons_of_mem _ hm, r'⟩
theorem bindL_keep {k : Str → Option NameKind} : ∀ {binds : List (Str × Value)} {m : Str → Option Value} {x : Str}, (∀ p ∈ binds, p.1 ≠ x) → bindL k binds m x = m x
  | [], _, _, _ => rfl
  | (n, v) :: r, m, x, h => by
    unfold bindL
    rw [bindL_keep fun p hp => h p (List.mem_cons_of_mem _ hp)]
    have := h (n, v) List.mem_cons_self
    split
    · simp [Ne.symm this]
    · rfl
theorem bindC_keep {k : Str → Option NameKind} : ∀ {binds : List (Str × Value)} {m : Str → Option Value} {x : Str}, (∀ p ∈ binds, p.1 ≠ x) → bindC k binds m x = m x
  | [], _, _, _ => rfl
  | (n, v) :: r, m, x, h => by
    unfold bindC
    rw [bindC_keep fun p hp => h p (List.mem_cons_of_mem _ hp)]
    have := h (n, v) List.mem_cons_self
    split
    · rfl
    · simp [Ne.symm this]
theorem bindL_mem {k : Str → Option NameKind} : ∀ {binds : List (Str × Value)} {m : Str → Option Value} {x : Str} {v : Value}, (binds.map (·.1)).Nodup → (x, v) ∈ binds → k x = some .local → bindL k binds m x = some v
  | (n, w) :: r, m, x, v, hn, hm, hk => by
    rw [List.map_cons, List.nodup_cons] at hn
    unfold bindL
    rcases List.mem_cons.mp hm with q | q
    · cases q
      rw [bindL_keep fun p hp z => hn.1 (by show n ∈ _; rw [← z]; exact List.mem_map.mpr ⟨p, hp, rfl⟩), if_pos hk]; simp
    · exact bindL_mem hn.2 q hk
theorem bindC_mem {k : Str → Option NameKind} : ∀ {binds : List (Str × Value)} {m : Str → Option Value} {x : Str} {v : Value}, (binds.map (·.1)).Nodup → (x, v) ∈ binds → k x = some .cell → bindC k binds m x = some v
  | (n, w) :: r, m, x, v, hn, hm, hk => by
    rw [List.map_cons, List.nodup_cons] at hn
    unfold bindC
    rcases List.mem_cons.mp hm with q | q
    · cases q
      rw [bindC_keep fun p hp z => hn.1 (by show n ∈ _; rw [← z]; exact List.mem_map.mpr ⟨p, hp, rfl⟩), if_neg (by rw [hk]; decide)]; simp
    · exact bindC_mem hn.2 q hk
theorem zip_names : ∀ {names : List Str} {vs : List Value}, vs.length = names.length → (names.zip vs).map (·.1) = names
  | [], [], _ => rfl
  | n :: names, v :: vs, h => by rw [List.zip_cons_cons, List.map_cons, zip_names (by simpa using h)]

theorem lookup_of_mem {α : Type} : ∀ {l : List (Str × α)} {p : Str × α}, (l.map (·.1)).Nodup → p ∈ l → l.lookup p.1 = some p.2
  | q :: l, p, hn, hm => by
    rw [List.map_cons, List.nodup_cons] at hn
    rw [show q = (q.1, q.2) from rfl, lookup_cons_of]
    rcases List.mem_cons.mp hm with z | z
    · subst z; simp
    · rw [if_neg fun e => hn.1 (by rw [← e]; exact List.mem_map.mpr ⟨p, z, rfl⟩)]
      exact lookup_of_mem hn.2 z
/-- a callee's frame -/
def calleeCx (prog : Program) (w : World) (mg mb : Str → Option Value) (K : List (Addr × Obj)) (fd : FuncData) (A : Around) (L f : Addr) (n : Nat) : Cx :=
  { prog := prog, w := w, A := A.deeper (callEnvC fd L f), env := callEnvC fd L f, wr := true, mg := mg, mb := mb, K := K, n := n }

theorem FnOk.of_body {prog : Program} {w : World} {mg mb : Str → Option Value} {K : List (Addr × Obj)} {f : Addr} {fd : FuncData} {body : List Stmt} {names : List Str} {ps : List PV} {r : PV} {d : Nat} (hd : IsDef K f fd) (hb : fd.body = .stmts body)
    (hbind : ∀ vs, vs.length = names.length → bindArgs fd ⟨vs, []⟩ = pure (names.zip vs)) (hnd : names.Nodup) (hlen : ps.length = names.length)
    (hcn : ∃ ns : List Str, (∀ L, (cellsFrom L fd.scope.names []).map (·.1) = ns) ∧ ns.Nodup)
    (hkind : ∀ L, ∀ x ∈ names, fd.scope.names.lookup x = some .local ∨ (fd.scope.names.lookup x = some .cell ∧ ((cellsFrom L fd.scope.names []).lookup x).isSome = true))
    (h : ∀ A L, EX (calleeCx prog w mg mb K fd A L f d) (names.zip ps) [] body (fun fl _ _ => fl = .ret r ∨ (fl = .next ∧ r = .none))) : FnOk prog w mg mb K f ps [] r (d + 1) := by
  intro A X vs s R hh hu hdp G tk hX hr k
  obtain ⟨o, hK, ho, hclo, hgl, hbl, hkd, hgen, hco, c, oc, cvs, ct, hc1, hc2, hc3, hc4⟩ := hd
  have hvl : vs.length = names.length := hr.len.trans hlen
  refine codeAny_call_function (show A.depth < recursionLimit by omega) (G.k _ hK) ho hco hgen hb ⟨c, oc, cvs, ct, hc1, G.k _ hc2, hc3, hc4⟩ ?_
  rw [hbind vs hvl, hclo]
  refine wpAny_pure (wpAny_tk tk (wpAny_newFunctionEnv_cells hkd (fun p hp => hkind _ p.1 (by rw [← zip_names hvl]; exact List.mem_map.mpr ⟨p, hp, rfl⟩)) fun env he s₁ IC pt => ?_))
  subst he
  refine ⟨G.lim.keeps IC.toInCall.keep, codeAny_func (body := body) ?_⟩
  obtain ⟨h1, t1, rfl, kp⟩ := IC.done
  have ok : (calleeCx prog w mg mb K fd A s.heap.objs.size f d).Ok := ⟨hkd, hh, by show A.units + 3 + 4 * d + 20 < cLine; omega, by show A.depth + 1 + d + 5 < recursionLimit; omega, hgl, hbl⟩
  have e0 := get_size s.heap
  have hcfresh : ∀ p ∈ (callEnvC fd s.heap.objs.size f).cells, s.heap.get? p.2 = none ∧ s.heap.objs.size < p.2 := fun p hp => by
    have := IC.above p.1 p.2 hp
    refine ⟨?_, this⟩
    cases q : s.heap.get? p.2 with
    | none => rfl
    | some o => exact absurd (Heap.lt_size q) (Nat.not_lt.mpr (Nat.le_of_lt this))
  have hlk : LookLe (vis s.heap X) (vis h1 ((calleeCx prog w mg mb K fd A s.heap.objs.size f d).hid ⟨s.heap, X⟩ [])) := fun a ob e => by
    obtain ⟨q1, q2⟩ := vis_get e
    refine vis_of (kp _ _ q1) fun hm => ?_
    rcases List.mem_cons.mp (show a ∈ (callEnvC fd s.heap.objs.size f).locals :: _ from hm) with z | z
    · rw [show a = s.heap.objs.size from z, e0] at q1; cases q1
    · rcases List.mem_append.mp z with z | z
      · obtain ⟨p, hp, rfl⟩ := List.mem_map.mp z
        rw [(hcfresh p hp).1] at q1; cases q1
      · exact q2 z
  have hE : Est (calleeCx prog w mg mb K fd A s.heap.objs.size f d) ⟨s.heap, X⟩ (names.zip ps) [] h1 := {
    g := G
    keep := kp
    liveX := fun a ha => by
      rcases List.mem_cons.mp ha with z | z
      · obtain ⟨o', es, ep, e, _⟩ := IC.toInCall.ns; exact ⟨o', z ▸ e⟩
      · rcases List.mem_append.mp z with z | z
        · obtain ⟨p, hp, rfl⟩ := List.mem_map.mp z
          obtain ⟨o', e, _⟩ := IC.cell _ _ (lookup_of_mem (by obtain ⟨ns, z1, z2⟩ := hcn; show ((cellsFrom (s.heap.objs.size + 1) fd.scope.names []).map (·.1)).Nodup; rw [z1]; exact z2) hp)
          exact ⟨o', e⟩
        · obtain ⟨o', e⟩ := hX a z; exact ⟨o', kp _ _ e⟩
    newL := e0
    locC := fun p hp q => by have := (hcfresh p hp).2; rw [show p.2 = s.heap.objs.size from q] at this; omega
    cells := fun _ => ⟨fun p hp => (hcfresh p hp).1, IC.apart⟩
    vars := by
      refine ⟨_, _, IC.toInCall.ns, IC.cell, fun x pv e => ?_⟩
      obtain ⟨v, hm, rv⟩ := lookup_zip_mem (ps := ps) (vs := vs) hr hlen x pv e
      have hxn : x ∈ names := by rw [← zip_names hvl]; exact List.mem_map.mpr ⟨_, hm, rfl⟩
      refine ⟨v, rv.get hlk, ?_⟩
      rcases hkind (s.heap.objs.size + 1) x hxn with q | ⟨q, q'⟩
      · exact .inl ⟨q, bindL_mem (by rw [zip_names hvl]; exact hnd) hm q⟩
      · exact .inr ⟨.inl q, Option.isSome_iff_exists.mp q', bindC_mem (by rw [zip_names hvl]; exact hnd) hm q⟩
    own := fun p hp => nomatch hp
    apart := List.nodup_nil }
  refine h A s.heap.objs.size ok ⟨s.heap, X⟩ { s with heap := h1, toks := t1 } _ _ hE pt fun fl fw V' M' h' t' e' rf hq => ?_
  rcases hq with rfl | ⟨rfl, rfl⟩
  · obtain ⟨v, rfl, rv⟩ := rf
    exact k v h' t' e'.keep (rv.get (vis_sub fun a ha => List.mem_cons_of_mem _ (List.mem_append_right _ ha)))
  · cases rf
    exact k .none h' t' e'.keep rfl
end
end Mine

/-! LayF -/
namespace Mine
open PySem PySem.W PySem.Calls PyProof.Rows
set_option Elab.async false
section
variable {C : Cx} {V : Vars} {M : Owns} {K : Cont}

/-- an argument, an owned list seen as it stands -/
def View (M : Owns) (p p' : PV) : Prop := p = p' ∨ (∃ a l, p = .at a ∧ (a, MO.list l) ∈ M ∧ p' = .list l) ∨ ∃ C' a l, p = .inst C' (.at a) ∧ (a, MO.list l) ∈ M ∧ p' = .inst C' (.list l)
def Views (M : Owns) : List PV → List PV → Prop
  | [], qs => qs = []
  | p :: ps, qs => ∃ q r, qs = q :: r ∧ View M p q ∧ Views M ps r
theorem Views.refl : ∀ (ps : List PV), Views M ps ps
  | [] => rfl
  | p :: ps => ⟨p, ps, rfl, .inl rfl, Views.refl ps⟩
theorem View.rep {B : Bs} {h : Heap} {p q : PV} {v : Value} (hv : View M p q) (hE : Est C B V M h) (r : Rep C.w.params (C.look B M h) p v) : Rep C.w.params (vis h (C.hb B)) q v := by
  have hl : LookLe (C.look B M h) (vis h (C.hb B)) := vis_sub fun a ha => List.mem_append_right _ ha
  rcases hv with rfl | ⟨a, l, rfl, hm, rfl⟩ | ⟨C', a, l, rfl, hm, rfl⟩
  · exact r.get hl
  · cases r
    obtain ⟨⟨vs, n, q, r⟩, _, q2⟩ := hE.own _ hm
    exact ⟨a, vs, n, rfl, vis_of q q2, RepL.mono hl _ r⟩
  · obtain ⟨ix, dx, m', t, u, rfl, g1, g2, g3⟩ := r
    cases g3
    obtain ⟨⟨vs, n, q, r⟩, _, q2⟩ := hE.own _ hm
    exact ⟨ix, dx, m', t, _, rfl, hl _ _ g1, hl _ _ g2, a, vs, n, rfl, vis_of q q2, RepL.mono hl _ r⟩
theorem Views.rep {B : Bs} {h : Heap} (hE : Est C B V M h) : ∀ {ps qs : List PV} {vs : List Value}, Views M ps qs → RepL C.w.params (C.look B M h) ps vs → RepL C.w.params (vis h (C.hb B)) qs vs
  | [], _, _, hv, r => by cases hv; exact r
  | p :: ps, _, _, hv, r => by
    obtain ⟨q, qs, rfl, h1, h2⟩ := hv
    obtain ⟨v, vs, rfl, r1, r2⟩ := r
    exact ⟨v, vs, rfl, h1.rep hE r1, Views.rep hE h2 r2⟩
theorem EX1.retView {e : Expr} {pos : Pos} {p p' : PV} (hv : EV C V M e p) (hw : View M p p') (h : K (.ret p') V M) : EX1 C V M (.Return (some e) pos) K := fun ok B s Q E hE tk k =>
  wpAny_Return_some (hv.then ok hE tk fun v h1 t1 k1 e1 p1 r1 => k (.ret p') (.ret v) _ _ h1 t1 e1 ⟨v, rfl, hw.rep e1 r1⟩ h)
def Scalar (r : PV) : Prop := ∀ P L L' v, Rep P L r v → Rep P L' r v
theorem Scalar.bool {b : Bool} : Scalar (.bool b) := fun _ _ _ _ h => h
theorem Scalar.int {b : Int} : Scalar (.int b) := fun _ _ _ _ h => h
theorem Scalar.str {b : Str} : Scalar (.str b) := fun _ _ _ _ h => h
theorem Scalar.none : Scalar .none := fun _ _ _ _ h => h

/-- a call of a def of the text, every argument frozen -/
theorem EV.callF {x : Str} {np pos : Pos} {es : List Expr} {ps : List PV} {f : Addr} {fd : FuncData} {r : PV} {d : Nat} (hf : EV C V M (.Name x np) (.val (.ref f))) (hs : starEach es C.env = es.map fun e => (false, eval e C.env)) (ha : EVs C V M es ps)
    (hd : IsDef C.K f fd) (h : FnOk C.prog C.w C.mg C.mb C.K f ps [] r d) (hn : d ≤ C.n) : EV C V M (.Call (.Name x np) es [] pos) r := fun ok B s Q E hE tk k => by
  refine wpAny_Call_NameR (hf.then ok hE tk fun v h1 t1 k1 e1 p1 r1 => ?_)
  cases r1
  rw [hs]
  obtain ⟨o, hK, ho, _⟩ := hd
  refine Calls.callWith_function (o := o) (fd := fd) (ha.args ok (s := { s with heap := h1, toks := t1 }) e1 p1 fun vs h2 t2 k2 e2 p2 r2 => ⟨⟨e2.G.k _ hK, ho⟩, wpAny_call ?_⟩)
  have hu := ok.units
  have hdp := ok.depth
  refine h C.A (C.hid B M) vs { s with heap := h2, toks := t2 } _ ok.hh (by omega) (by omega) e2.G p2 (fun a q => ?_) r2 fun v h3 t3 k3 r3 => k v h3 t3 (k1.trans (k2.trans k3)) r3
  rcases List.mem_append.mp q with q | q
  · obtain ⟨p, hp, rfl⟩ := List.mem_map.mp q
    exact (e2.own p hp).1.live
  · exact e2.liveX a q
/-- the same, owned lists among the arguments, the answer a plain value -/
theorem EV.callV {x : Str} {np pos : Pos} {es : List Expr} {ps qs : List PV} {f : Addr} {fd : FuncData} {r : PV} {d : Nat} (hf : EV C V M (.Name x np) (.val (.ref f))) (hs : starEach es C.env = es.map fun e => (false, eval e C.env)) (ha : EVs C V M es ps) (hv : Views M ps qs) (hr : Scalar r)
    (hd : IsDef C.K f fd) (h : FnOk C.prog C.w C.mg C.mb C.K f qs [] r d) (hn : d ≤ C.n) : EV C V M (.Call (.Name x np) es [] pos) r := fun ok B s Q E hE tk k => by
  refine wpAny_Call_NameR (hf.then ok hE tk fun v h1 t1 k1 e1 p1 r1 => ?_)
  cases r1
  rw [hs]
  obtain ⟨o, hK, ho, _⟩ := hd
  refine Calls.callWith_function (o := o) (fd := fd) (ha.args ok (s := { s with heap := h1, toks := t1 }) e1 p1 fun vs h2 t2 k2 e2 p2 r2 => ⟨⟨e2.G.k _ hK, ho⟩, wpAny_call ?_⟩)
  have hu := ok.units
  have hdp := ok.depth
  exact h C.A (C.hb B) vs { s with heap := h2, toks := t2 } _ ok.hh (by omega) (by omega) e2.G p2 (fun a q => e2.liveX a q) (hv.rep e2 r2) fun v h3 t3 k3 r3 => k v h3 t3 (k1.trans (k2.trans k3)) (hr _ _ _ _ r3)

/-- the cells that a comprehension captures -/
def clFrom (env : Env) : List (Str × NameKind) → List (Str × Addr) → List (Str × Addr)
  | [], cs => cs
  | (n, k) :: r, cs => if k == .free then (match env.cells.lookup n with | some c => clFrom env r ((n, c) :: cs) | none => clFrom env r cs) else clFrom env r cs
def clOf (scope : Scope) (env : Env) : List (Str × Addr) := clFrom env scope.names []
theorem clFrom_mem {env : Env} : ∀ {names : List (Str × NameKind)} {cs : List (Str × Addr)}, (∀ p ∈ cs, env.cells.lookup p.1 = some p.2) → ∀ p ∈ clFrom env names cs, env.cells.lookup p.1 = some p.2
  | [], cs, h, p, hp => h p hp
  | (n, k) :: r, cs, h, p, hp => by
    unfold clFrom at hp
    split at hp
    · split at hp
      · rename_i c hc
        exact clFrom_mem (fun q hq => by rcases List.mem_cons.mp hq with z | z; (subst z; exact hc); exact h q z) p hp
      · exact clFrom_mem h p hp
    · exact clFrom_mem h p hp
theorem closureFor_cl {env : Env} {scope : Scope} (h : ∀ p ∈ scope.names, p.2 = .free → (env.cells.lookup p.1).isSome = true) : closureFor scope env = pure (clOf scope env) := by
  unfold closureFor clOf
  have key : ∀ (names : List (Str × NameKind)) (cs : List (Str × Addr)), (∀ p ∈ names, p.2 = .free → (env.cells.lookup p.1).isSome = true) →
      (forIn names cs fun (x : Str × NameKind) (r : List (Str × Addr)) => if x.2 == .free then (do let c ← cellOf env x.1; pure (ForInStep.yield ((x.1, c) :: r))) else pure (ForInStep.yield r)) = (pure (clFrom env names cs) : Sem _) := by
    intro names
    induction names with
    | nil => intro cs _; rfl
    | cons q r ih =>
      intro cs hq
      obtain ⟨n, k⟩ := q
      rw [List.forIn_cons]
      unfold clFrom
      cases hk : k == NameKind.free with
      | false =>
        simp only [hk, Bool.false_eq_true, if_false]
        exact ih cs fun p hp => hq p (List.mem_cons_of_mem _ hp)
      | true =>
        simp only [hk, if_true]
        obtain ⟨c, hc⟩ := Option.isSome_iff_exists.mp (hq (n, k) List.mem_cons_self (beq_iff_eq.mp hk))
        have hcell : cellOf env n = pure c := by unfold cellOf; rw [hc]
        rw [hcell, hc]
        exact ih _ fun p hp => hq p (List.mem_cons_of_mem _ hp)
  have := key scope.names [] h
  exact congrArg (fun m : Sem (List (Str × Addr)) => m >>= fun cs => pure cs) this

/-- a comprehension's block -/
def compCx (C : Cx) (scope : Scope) (Ca : Addr) : Cx := { C with env := compEnvC scope (clOf scope C.env) Ca C.env, wr := false }
structure CompOk (C : Cx) (V Vc : Vars) (scope : Scope) (x : Str) : Prop where
  free : ∀ p ∈ scope.names, p.2 = .free → (C.env.cells.lookup p.1).isSome = true
  cell : ∀ y ∈ scope.names, y.2 ≠ .cell
  kind : scope.kind = .function
  names : ∀ y ∈ scope.names, y.2 = .local → scope.names.lookup y.1 = some .local
  x : scope.names.lookup x = some .local
  caught : ∀ y pv, Vc.lookup y = some pv → V.lookup y = some pv ∧ C.env.kindOf y = some .cell ∧ (relabel scope C.env).names.lookup y = some .cell ∧ ((clOf scope C.env).lookup y).isSome = true

def CT (C : Cx) (V : Vars) (M : Owns) (ifs : List Expr) (b : Bool) : Prop :=
  C.Ok → ∀ (B : Bs) (s : Shared) (Q : Bool → Shared → Prop) (E : Value → Shared → Prop), Est C B V M s.heap → 0 < s.toks →
    (∀ h' t', Keep s.heap h' → Q b { s with heap := h', toks := t' }) →
    wpAny (model C.prog C.w) C.A (forIn ifs true fun c r => if r = true then do let ok ← isTrue c C.env (eval c C.env); pure (ForInStep.yield ok) else pure (ForInStep.yield r)) Q E s
theorem CT.nil : CT C V M [] true := fun _ _ s _ _ _ _ k => wpAny_tests_nil (k s.heap s.toks .rfl)
theorem CT.one {c : Expr} {b : Bool} (h : ET C V M c b) : CT C V M [c] b := fun ok B s Q E hE tk k => wpAny_tests_one (h ok B s Q E hE tk k)

/-- a block's frame over the outer one's -/
theorem Est.block {B : Bs} {h h' : Heap} {scope : Scope} {x : Str} {Vc : Vars} {Ca D : Addr} {wr : List Addr} {p : PV} {v : Value} {m : Str → Option Value} (hE : Est C B V M h) (ok : C.Ok) (co : CompOk C V Vc scope x) (kp : Keep h h')
    (hCa : h.get? Ca = none) (hX : ∀ a ∈ D :: wr, ∃ o, h'.get? a = some o) (hD : ∀ a ∈ D :: wr, h.get? a = none) (hn : h'.Ns Ca m) (hm : m x = some v)
    (hp : Rep C.w.params ((compCx C scope Ca).look ⟨B.h₀, D :: (wr ++ C.hid B M)⟩ [] h') p v) : Est (compCx C scope Ca) ⟨B.h₀, D :: (wr ++ C.hid B M)⟩ ((x, p) :: Vc) [] h' := by
  have hcl : ∀ q ∈ clOf scope C.env, C.env.cells.lookup q.1 = some q.2 := clFrom_mem (fun _ z => nomatch z)
  have hclh : ∀ q ∈ clOf scope C.env, q.2 ∈ C.hid B M := fun q hq => List.mem_append_right _ (List.mem_cons_of_mem _ (List.mem_append_left _ (List.mem_map.mpr ⟨_, mem_of_lookup (hcl q hq), rfl⟩)))
  have hlook : LookLe (C.look B M h) ((compCx C scope Ca).look ⟨B.h₀, D :: (wr ++ C.hid B M)⟩ [] h') := fun a o e => by
    obtain ⟨e1, n⟩ := vis_get e
    refine vis_of (kp a o e1) fun z => ?_
    rcases List.mem_cons.mp (show a ∈ Ca :: _ from z) with z | z
    · subst z; rw [hCa] at e1; cases e1
    · rcases List.mem_append.mp z with z | z
      · obtain ⟨q, hq, rfl⟩ := List.mem_map.mp z; exact n (hclh q hq)
      · rcases List.mem_cons.mp z with z | z
        · subst z; rw [hD a List.mem_cons_self] at e1; cases e1
        · rcases List.mem_append.mp z with z | z
          · rw [hD a (List.mem_cons_of_mem _ z)] at e1; cases e1
          · exact n z
  have livehid : ∀ a ∈ C.hid B M, ∃ o, h.get? a = some o := fun a z => by
    rcases List.mem_append.mp z with z | z
    · obtain ⟨q, hq, rfl⟩ := List.mem_map.mp z; exact (hE.own q hq).1.live
    · exact hE.liveX a z
  exact {
    g := hE.g
    keep := hE.keep.trans kp
    liveX := fun a ha => by
      rcases List.mem_cons.mp ha with z | z
      · obtain ⟨o, es, ep, e, _⟩ := hn; exact ⟨o, z ▸ e⟩
      · rcases List.mem_append.mp z with z | z
        · obtain ⟨q, hq, rfl⟩ := List.mem_map.mp z
          obtain ⟨o, e⟩ := livehid _ (hclh q hq); exact ⟨o, kp _ _ e⟩
        · rcases List.mem_cons.mp z with z | z
          · exact hX a (z ▸ List.mem_cons_self)
          · rcases List.mem_append.mp z with z | z
            · exact hX a (List.mem_cons_of_mem _ z)
            · obtain ⟨o, e⟩ := livehid a z; exact ⟨o, kp _ _ e⟩
    newL := Bs.none_of hE.keep hCa
    locC := fun q hq z => by
      obtain ⟨o, e⟩ := livehid _ (hclh q hq)
      rw [show q.2 = Ca from z, hCa] at e; cases e
    cells := fun w => nomatch w
    vars := by
      obtain ⟨mm, cm, h1, h2, h3⟩ := hE.vars
      refine ⟨m, cm, hn, fun n c e => (h2 n c (hcl _ (mem_of_lookup e))).keeps kp, fun y pv e => ?_⟩
      rw [lookup_cons_of] at e
      by_cases q : y = x
      · subst q
        rw [if_pos rfl] at e; cases e
        exact ⟨v, hp, .inl ⟨lookup_relabel_local co.x, hm⟩⟩
      · rw [if_neg q] at e
        obtain ⟨z1, z2, z3, z4⟩ := co.caught y pv e
        obtain ⟨v', r', z⟩ := h3 y pv z1
        refine ⟨v', r'.get hlook, ?_⟩
        rcases z with ⟨z, _⟩ | ⟨_, _, z⟩
        · rw [z2] at z; cases z
        · exact .inr ⟨.inl z3, Option.isSome_iff_exists.mp z4, z⟩
    own := fun p hp => nomatch hp
    apart := List.nodup_nil }

theorem comp_run {elt iter : Expr} {x : Str} {px : Pos} {ifs : List Expr} {scope : Scope} {pos : Pos} {items : List PV} {kp : PV → Bool} {f : PV → PV} {Vc : Vars} {RR : Value → Addr → Result → Shared → Prop}
    (co : CompOk C V Vc scope x) (hi : It C V M iter items) (hsz : items.length ≤ sizeLine)
    (hbody : ∀ Ca, ∀ p ∈ items, CT (compCx C scope Ca) ((x, p) :: Vc) [] ifs (kp p) ∧ (kp p = true → EV (compCx C scope Ca) ((x, p) :: Vc) [] elt (f p)))
    (ok : C.Ok) {B : Bs} {s : Shared} {E : Value → Shared → Prop} (hE : Est C B V M s.heap) (tk : 0 < s.toks)
    (fin : ∀ D Ca ys n m h' t', s.heap.get? D = none → s.heap.get? Ca = none → D ≠ Ca → Keep s.heap h' → h'.get? D = some (listObj ys n) → RepL C.w.params (vis h' (Ca :: C.hid B M)) ((items.filter kp).map f) ys → h'.Ns Ca m →
      RR (.ref D) Ca (.ok .next) { s with heap := h', toks := t' }) :
    wpAny (model C.prog C.w) C.A (eval iter C.env) (fun xv s₁ => wpAny (model C.prog C.w) C.A (pyIter xv) (fun it s₂ => wpAny (model C.prog C.w) C.A (newList []) (fun acc s₃ => wpAny (model C.prog C.w) C.A (newFunctionEnv scope C.env.globals (clOf scope C.env) [] C.env.qual none .none (some C.env)) (fun cenv s₄ =>
      codeAny (model C.prog C.w) C.A (.compStart (.ListComp elt [⟨.Name x px, iter, ifs, 0⟩] scope pos) 0 it acc { cenv with scope := relabel scope C.env }) (RR acc cenv.locals) s₄) E s₃) E s₂) E s₁) E s := by
  refine hi ok B s _ E hE tk fun I fp wr P St h1 t1 k1 W st0 hwf hlv hfp hP pt1 => ?_
  refine wpAny_newObj_type (wpAny_newFunctionEnv co.cell (by intro y hy; simp at hy) (fun h3 hns3 hsb3 => ?_) co.kind)
  have e0 := get_size h1
  have ePush : (h1.push (listObj [] 0)).objs.size = h1.objs.size + 1 := Heap.size_push ..
  have eC := get_size (h1.push (listObj [] 0))
  have kD : Keep h1 (h1.push (listObj [] 0)) := Keep.rfl.push _
  have k13 : Keep h1 h3 := fun b o e => hsb3.extBut b o (fun q => by
    rw [q] at e
    have e' := kD _ _ e
    rw [eC] at e'; cases e') (Heap.get?_push_of_some _ (kD b o e))
  generalize hCa : (h1.push (listObj [] 0)).objs.size = Ca at *
  have hDCa : h1.objs.size ≠ Ca := by omega
  have hDval : h3.get? h1.objs.size = some (listObj [] 0) := hsb3.extBut _ _ hDCa (Heap.get?_push_of_some _ (Heap.get?_push_size _ rfl))
  generalize hDD : h1.objs.size = D at *
  have hns3' : h3.Ns Ca (fun x => ([] : List (Str × Value)).reverse.lookup x) := hns3
  have hCa1 : h1.get? Ca = none := by
    cases q : h1.get? Ca with
    | none => rfl
    | some o => have := kD _ _ q; rw [eC] at this; cases this
  have ks3 : Keep s.heap h3 := k1.trans k13
  have snone : ∀ b, h1.get? b = none → s.heap.get? b = none := fun b e => by
    cases q : s.heap.get? b with
    | none => rfl
    | some o => rw [k1 _ _ q] at e; cases e
  have hwrD : ∀ b ∈ wr, b ≠ D ∧ b ≠ Ca := fun b hb => by
    obtain ⟨o, e⟩ := hlv 0 h1 st0 b hb
    exact ⟨fun q => (by rw [q, e0] at e; cases e), fun q => (by rw [q, hCa1] at e; cases e)⟩
  have hfp' : ∀ b ∈ fp, b ≠ D ∧ b ≠ Ca := fun b hb => by
    rcases hfp b hb with q | ⟨o, q⟩
    · exact hwrD b q
    · have e := (vis_get q).1
      exact ⟨fun q => (by rw [q, e0] at e; cases e), fun q => (by rw [q, hCa1] at e; cases e)⟩
  have st3 : St 0 h3 := W.frame 0 h1 h3 st0 fun b hb o e => k13 b o e
  -- what is kept through the loop
  have keepS : ∀ h', KeepBut (Ca :: D :: wr) h3 h' → Keep s.heap h' := fun h' kb b o e => kb b o (fun z => by
    rcases List.mem_cons.mp z with z | z
    · rw [z, snone _ hCa1] at e; cases e
    · rcases List.mem_cons.mp z with z | z
      · rw [z, snone _ e0] at e; cases e
      · rw [hwf b z] at e; cases e) (ks3 b o e)
  have loop : ∀ s₄ : Shared, s₄ = { s with heap := h3, toks := t1 + ([] : List (Str × Value)).length } →
      codeAny (model C.prog C.w) C.A (.compLoop (.ListComp elt [⟨.Name x px, iter, ifs, 0⟩] scope pos) 0 (.ref I) (.ref D) (compEnvC scope (clOf scope C.env) Ca C.env)) (RR (.ref D) Ca) s₄ := by
    rintro s₄ rfl
    refine codeAny_compLoop_tests (I := fun n s' => ∃ done rest ys k m h' t', items = done ++ rest ∧ n = rest.length ∧ s' = { s with heap := h', toks := t' } ∧ KeepBut (Ca :: D :: wr) h3 h' ∧ h'.Ns Ca m ∧ h'.get? D = some (listObj ys k) ∧
      RepL C.w.params ((compCx C scope Ca).look ⟨B.h₀, D :: (wr ++ C.hid B M)⟩ [] h') ((done.filter kp).map f) ys ∧ 0 < t' ∧ St done.length h') ?_ items.length ⟨[], items, [], 0, _, h3, _, rfl, rfl, rfl, fun _ _ _ e => e, hns3', hDval, rfl, pt1, st3⟩ (fun _ => rfl)
    rintro n s' ⟨done, rest, ys, k, m, h', t', hit, rfl, rfl, kb, hns, hD, hr, pt, st⟩
    have hCl : ∀ q ∈ clOf scope C.env, q.2 ∈ C.hid B M := fun q hq => List.mem_append_right _ (List.mem_cons_of_mem _ (List.mem_append_left _ (List.mem_map.mpr ⟨_, mem_of_lookup (clFrom_mem (by intro _ z; cases z) q hq), rfl⟩)))
    cases rest with
    | nil =>
      rw [List.append_nil] at hit; subst hit
      refine W.done _ _ _ st fun h'' t'' kw => ?_
      have kb2 : KeepBut (Ca :: D :: wr) h3 h'' := fun b o n e => kw b o (fun z => n (List.mem_cons_of_mem _ (List.mem_cons_of_mem _ z))) (kb b o n e)
      obtain ⟨o, es, ep, e, er⟩ := hns
      refine fin D Ca ys k m h'' t'' (snone _ e0) (snone _ hCa1) hDCa (keepS h'' kb2) (kw _ _ (fun z => (hwrD _ z).1 rfl) hD) (RepL.mono (fun a ob z => ?_) _ hr) ⟨o, es, ep, kw _ _ (fun z => (hwrD _ z).2 rfl) e, er⟩
      obtain ⟨z1, z2⟩ := vis_get z
      refine vis_of (kw _ _ (fun q => z2 (List.mem_cons_of_mem _ (List.mem_append_right _ (List.mem_cons_of_mem _ (List.mem_append_left _ q))))) z1) fun q => z2 ?_
      rcases List.mem_cons.mp q with q | q
      · exact q ▸ List.mem_cons_self
      · exact List.mem_cons_of_mem _ (List.mem_append_right _ (List.mem_cons_of_mem _ (List.mem_append_right _ q)))
    | cons p rest =>
      refine wpAny_tk (s := { s with heap := h', toks := t' }) pt (W.item done.length _ _ _ (by rw [hit]; simp) st fun v h'' t'' hp st' kw pt2 => ?_)
      have kb2 : KeepBut (Ca :: D :: wr) h3 h'' := fun b o n e => kw b o (fun z => n (List.mem_cons_of_mem _ (List.mem_cons_of_mem _ z))) (kb b o n e)
      obtain ⟨o, es, ep, e, er⟩ := hns
      have hns2 : h''.Ns Ca m := ⟨o, es, ep, kw _ _ (fun z => (hwrD _ z).2 rfl) e, er⟩
      have hD2 := kw _ _ (fun z => (hwrD _ z).1 rfl) hD
      -- the name
      refine wpAny_assign_Name (wpAny_storeName_local (env := compEnvC scope (clOf scope C.env) Ca C.env) (lookup_relabel_local co.x) hns2 (fun h4 hn4 hs4 => ?_) (by show (scope.kind == .class || _) = false; simp [compEnvC, relabel, co.kind]))
      have kb4 : KeepBut (Ca :: D :: wr) h3 h4 := fun b o n e => hs4.extBut b o (fun z => n (z ▸ List.mem_cons_self)) (kb2 b o n e)
      have hD4 : h4.get? D = some (listObj ys k) := hs4.extBut _ _ hDCa hD2
      have st4 : St (done.length + 1) h4 := W.frame _ _ _ st' fun b hb o e => hs4.extBut b o (hfp' b hb).2 e
      have hlk : ∀ {ha hb : Heap}, KeepBut (Ca :: D :: wr) ha hb → LookLe ((compCx C scope Ca).look ⟨B.h₀, D :: (wr ++ C.hid B M)⟩ [] ha) ((compCx C scope Ca).look ⟨B.h₀, D :: (wr ++ C.hid B M)⟩ [] hb) := fun kk a ob z => by
        obtain ⟨z1, z2⟩ := vis_get z
        refine vis_of (kk a ob (fun q => z2 ?_) z1) z2
        rcases List.mem_cons.mp q with q | q
        · exact q ▸ List.mem_cons_self
        · refine List.mem_cons_of_mem _ (List.mem_append_right _ ?_)
          rcases List.mem_cons.mp q with q | q
          · exact q ▸ List.mem_cons_self
          · exact List.mem_cons_of_mem _ (List.mem_append_left _ q)
      have hr4 : RepL C.w.params ((compCx C scope Ca).look ⟨B.h₀, D :: (wr ++ C.hid B M)⟩ [] h4) ((done.filter kp).map f) ys := RepL.mono (hlk fun b o n e => hs4.extBut b o (fun z => n (z ▸ List.mem_cons_self)) (kw b o (fun z => n (List.mem_cons_of_mem _ (List.mem_cons_of_mem _ z))) e)) _ hr
      have hpr : Rep C.w.params ((compCx C scope Ca).look ⟨B.h₀, D :: (wr ++ C.hid B M)⟩ [] h4) p v := (hP done.length p v (by rw [hit]; simp) hp).get fun a ob z => by
        obtain ⟨z1, z2⟩ := vis_get z
        have nD : a ≠ D := fun q => by rw [q, e0] at z1; cases z1
        have nC : a ≠ Ca := fun q => by rw [q, hCa1] at z1; cases z1
        have nw : a ∉ wr := fun q => z2 (List.mem_append_left _ q)
        refine vis_of (kb4 a ob (fun q => ?_) (k13 a ob z1)) fun q => ?_
        · rcases List.mem_cons.mp q with q | q
          · exact nC q
          · rcases List.mem_cons.mp q with q | q
            · exact nD q
            · exact nw q
        · rcases List.mem_cons.mp (show a ∈ Ca :: _ from q) with q | q
          · exact nC q
          · rcases List.mem_append.mp q with q | q
            · obtain ⟨y, hy, rfl⟩ := List.mem_map.mp q
              exact z2 (List.mem_append_right _ (hCl y hy))
            · rcases List.mem_cons.mp q with q | q
              · exact nD q
              · exact z2 q
      have hX4 : ∀ a ∈ D :: wr, ∃ o, h4.get? a = some o := fun a ha => by
        rcases List.mem_cons.mp ha with q | q
        · exact ⟨_, q ▸ hD4⟩
        · exact hlv _ _ st4 a q
      have hXn : ∀ a ∈ D :: wr, s.heap.get? a = none := fun a ha => by
        rcases List.mem_cons.mp ha with q | q
        · exact q ▸ snone _ e0
        · exact hwf a q
      have E4 : Est (compCx C scope Ca) ⟨B.h₀, D :: (wr ++ C.hid B M)⟩ ((x, p) :: Vc) [] h4 := hE.block ok co (keepS h4 kb4) (snone _ hCa1) hX4 hXn hn4 (by simp) hpr
      have okc : (compCx C scope Ca).Ok := ⟨by show (relabel scope C.env).kind = _; simp [relabel, co.kind], ok.hh, ok.units, ok.depth, ok.gl, ok.bl⟩
      obtain ⟨hb1, hb2⟩ := hbody Ca p (by rw [hit]; simp)
      refine wpAny_tk (s := { s with heap := h4, toks := t'' + 1 }) (Nat.succ_pos _) (hb1 okc _ { s with heap := h4, toks := t'' + 1 } _ _ E4 (Nat.succ_pos _) fun h5 t5 k5 pt5 => ?_)
      have hit' : items = (done ++ [p]) ++ rest := by rw [hit]; simp
      have hns5 : h5.Ns Ca _ := hn4.keeps k5
      have kb5 : KeepBut (Ca :: D :: wr) h3 h5 := fun b o n e => k5 _ _ (kb4 b o n e)
      have st5 : St (done.length + 1) h5 := W.frame _ _ _ st4 fun b hb o e => k5 b o e
      cases hkp : kp p with
      | false =>
        rw [if_neg Bool.false_ne_true]
        refine ⟨rest.length, Nat.lt_succ_self _, done ++ [p], rest, ys, k, _, h5, t5, hit', rfl, rfl, kb5, hns5, k5 _ _ hD4, ?_, pt5, by rw [List.length_append]; exact st5⟩
        rw [List.filter_append, List.filter_cons_of_neg (by simp [hkp]), List.filter_nil, List.append_nil]
        exact RepL.mono (vis_keep k5) _ hr4
      | true =>
        rw [if_pos rfl]
        refine (hb2 hkp).then okc (s := { s with heap := h5, toks := t5 }) (E4.kept k5) pt5 fun y h6 t6 k6 e6 p6 r6 => ?_
        have hD6 : h6.get? D = some (listObj ys k) := k6 _ _ (k5 _ _ hD4)
        have hlen : ys.length ≤ sizeLine := by
          rw [hr4.len, List.length_map]
          refine Nat.le_trans (List.length_filter_le _ _) (Nat.le_trans ?_ hsz)
          rw [hit]; simp
        refine call_meets slot_list_append ⟨_, hD6, rfl⟩ F.entry_list_append (F.args_list_append_2 _ _) (AutoListH.list_append_list_val_0 D ys.toArray k y (by rw [List.size_toArray]; exact hlen)) ⟨hD6, ?_⟩
        have hs7 : Heap.SameBut D h6 (h6.update D (Obj.mapSeq fun a => a.push y)) := Heap.SameBut.update ..
        have kb7 : KeepBut (Ca :: D :: wr) h6 (h6.update D (Obj.mapSeq fun a => a.push y)) := fun b o n e => hs7.extBut b o (fun z => n (z ▸ List.mem_cons_of_mem _ List.mem_cons_self)) e
        obtain ⟨k', hD7⟩ : ∃ k', (h6.update D (Obj.mapSeq fun a => a.push y)).get? D = some (listObj (ys ++ [y]) k') := by
          exact ⟨_, (Heap.get?_update_self _ hD6 rfl).trans (by show some (Obj.mk _ _ (Data.seq (ys.toArray.push y) _) _) = some (Obj.mk _ _ (Data.seq (ys ++ [y]).toArray _) _); rw [List.push_toArray])⟩
        refine ⟨rest.length, Nat.lt_succ_self _, done ++ [p], rest, ys ++ [y], k', _, _, t6, hit', rfl, rfl, fun b o n e => kb7 b o n (k6 _ _ (kb5 b o n e)), (hns5.keeps k6).sameBut hs7 (Ne.symm hDCa), hD7, ?_, p6, ?_⟩
        · rw [List.filter_append, List.filter_cons_of_pos hkp, List.filter_nil, List.map_append]
          exact RepL.snoc (RepL.mono ((vis_keep (k5.trans k6)).trans (hlk kb7)) _ hr4) (r6.get (hlk kb7))
        · rw [List.length_append]
          exact W.frame _ _ _ (W.frame _ _ _ st5 fun b hb o e => k6 b o e) fun b hb o e => hs7.extBut b o (hfp' b hb).1 e
  have hst : codeAny (model C.prog C.w) C.A (.compStart (.ListComp elt [⟨.Name x px, iter, ifs, 0⟩] scope pos) 0 (.ref I) (.ref D) (compEnvC scope (clOf scope C.env) Ca C.env)) (RR (.ref D) Ca) { s with heap := h3, toks := t1 + ([] : List (Str × Value)).length } :=
    codeAny_compStart_list (loop _ rfl) (W.self 0 _ _ _ st3 (loop _ rfl))
  exact hst
end
end Mine

/-! LayG -/
namespace Mine
open PySem PySem.W PySem.Calls PyProof.Rows
set_option Elab.async false
section
variable {C : Cx} {V : Vars} {M : Owns} {K : Cont}

theorem SN.comp {elt iter : Expr} {x : Str} {px : Pos} {ifs : List Expr} {scope : Scope} {pos : Pos} {items : List PV} {kp : PV → Bool} {f : PV → PV} {Vc : Vars}
    (co : CompOk C V Vc scope x) (hi : It C V M iter items) (hsz : items.length ≤ sizeLine)
    (hbody : ∀ Ca, ∀ p ∈ items, CT (compCx C scope Ca) ((x, p) :: Vc) [] ifs (kp p) ∧ (kp p = true → EV (compCx C scope Ca) ((x, p) :: Vc) [] elt (f p)))
    (hs : ∀ x, foldedSetIterable iter C.env x = pure x) : SN C V M (eval (.ListComp elt [⟨.Name x px, iter, ifs, 0⟩] scope pos) C.env) ((items.filter kp).map f) := fun ok B s Q E hE tk k => by
  rw [eval_ListComp]
  refine wpAny_comprehension_free (use := none) rfl hs (closureFor_cl co.free) co.kind co.names ?_
  refine comp_run (RR := fun acc Ca => compPost (model C.prog C.w) C.A E none Q acc Ca) co hi hsz hbody ok hE tk fun D Ca ys n m h' t' hD hCa hne kp hDv hr hns => ?_
  refine ⟨m, hns, fun h'' hs'' => ?_⟩
  have hDn : D ∉ C.hid B M := hE.fresh hD
  refine k D ys n h'' t' hD (hs''.extBut _ _ hne hDv) (RepL.mono (fun a o e => ?_) _ hr) fun b o e => hs''.extBut _ _ (fun q => by rw [q, hCa] at e; cases e) (kp b o e)
  obtain ⟨e1, e2⟩ := vis_get e
  exact vis_of (hs''.extBut _ _ (fun q => e2 (q ▸ List.mem_cons_self)) e1) fun q => e2 (List.mem_cons_of_mem _ q)
theorem EV.comp {elt iter : Expr} {x : Str} {px : Pos} {ifs : List Expr} {scope : Scope} {pos : Pos} {items : List PV} {kp : PV → Bool} {f : PV → PV} {Vc : Vars}
    (co : CompOk C V Vc scope x) (hi : It C V M iter items) (hsz : items.length ≤ sizeLine)
    (hbody : ∀ Ca, ∀ p ∈ items, CT (compCx C scope Ca) ((x, p) :: Vc) [] ifs (kp p) ∧ (kp p = true → EV (compCx C scope Ca) ((x, p) :: Vc) [] elt (f p)))
    (hs : ∀ x, foldedSetIterable iter C.env x = pure x) : EV C V M (.ListComp elt [⟨.Name x px, iter, ifs, 0⟩] scope pos) (.list ((items.filter kp).map f)) :=
  (SN.comp co hi hsz hbody hs).sv

/-- a store while a new thing is about that will go -/
theorem wp_store_over {y : Str} {l : PV} {v : Value} {B : Bs} {s : Shared} {h' : Heap} {t' : Nat} {Ca : Addr} {m : Str → Option Value} {Q : Flow → Shared → Prop} {E : Value → Shared → Prop} (ok : C.Ok) (hy : C.St y) (hE : Est C B V M s.heap) (kp : Keep s.heap h')
    (hCa : s.heap.get? Ca = none) (hns : h'.Ns Ca m) (hr : Rep C.w.params (vis h' (Ca :: C.hid B M)) l v)
    (k : ∀ h2 t2, Est C B ((y, l) :: V) M h2 → Q .next { s with heap := h2, toks := t2 }) :
    wpAny (model C.prog C.w) C.A (storeName C.env y v) (fun _ s'' => ∃ m, s''.heap.Ns Ca m ∧ ∀ h'', Heap.SameBut Ca s''.heap h'' → Q .next { s'' with heap := h'' }) E { s with heap := h', toks := t' } := by
  obtain ⟨oc, esc, epc, ec, erc⟩ := hns
  have E1 := hE.rebaseW (wr := [Ca]) kp (fun b hb => by rw [List.mem_singleton.mp hb]; exact hCa) (fun b hb => by rw [List.mem_singleton.mp hb]; exact ⟨oc, ec⟩)
  have hnh : Ca ∉ C.hid B M := hE.fresh hCa
  have E2 := E1.rebase
  have hown : Ca ∉ C.own M := fun q => by
    rcases List.mem_append.mp q with q | q
    · exact hnh (List.mem_append_left _ q)
    · rcases List.mem_cons.mp q with q | q
      · exact hnh (List.mem_append_right _ (q ▸ List.mem_cons_self))
      · split at q
        · exact hnh (List.mem_append_right _ (List.mem_cons_of_mem _ (List.mem_append_left _ q)))
        · cases q
  have hr2 : Rep C.w.params (C.look ⟨hideAll h' (C.own M), [Ca] ++ B.X⟩ M h') l v := hr.get (vis_sub fun a ha => by
    rcases List.mem_append.mp ha with q | q
    · exact List.mem_cons_of_mem _ (List.mem_append_left _ q)
    · rcases List.mem_cons.mp q with q | q
      · exact List.mem_cons_of_mem _ (List.mem_append_right _ (q ▸ List.mem_cons_self))
      · rcases List.mem_append.mp q with q | q
        · exact List.mem_cons_of_mem _ (List.mem_append_right _ (List.mem_cons_of_mem _ (List.mem_append_left _ q)))
        · rcases List.mem_cons.mp q with q | q
          · exact q ▸ List.mem_cons_self
          · exact List.mem_cons_of_mem _ (List.mem_append_right _ (List.mem_cons_of_mem _ (List.mem_append_right _ q))))
  refine wp_store ok (s := { s with heap := h', toks := t' }) hy E2 hr2 fun h2 t2 e2 => ?_
  have ec2 : h2.get? Ca = some oc := e2.keep _ _ (hideAll_get _ ec hown)
  refine ⟨m, ⟨oc, esc, epc, ec2, erc⟩, fun h'' hs'' => k h'' t2 ?_⟩
  have e3 := E1.back e2
  have hloc : ∀ b ∈ [Ca], b ≠ C.env.locals ∧ ∀ p ∈ C.env.cells, b ≠ p.2 := fun b hb => by
    rw [List.mem_singleton.mp hb]
    exact ⟨fun q => hnh (List.mem_append_right _ (q ▸ List.mem_cons_self)), fun p hp q => hnh (List.mem_append_right _ (List.mem_cons_of_mem _ (List.mem_append_left _ (q ▸ List.mem_map.mpr ⟨p, hp, rfl⟩))))⟩
  have e4 := e3.stepX (h' := h'') (fun b o n e => hs''.extBut _ _ (fun q => n (q ▸ List.mem_singleton.mpr rfl)) e) (fun b hb => hideAll_none _ (List.mem_append_right _ hb)) hloc
    (fun a ha q => hnh (List.mem_append_right _ (List.mem_cons_of_mem _ (List.mem_append_right _ (List.mem_singleton.mp q ▸ ha)))))
  exact e4.weaken ((hE.kept kp).strip_keep [Ca] fun b hb => by rw [List.mem_singleton.mp hb]; exact Bs.none_of hE.keep hCa) hE.g

theorem EX1.assignComp {elt iter : Expr} {x y : Str} {px py : Pos} {ifs : List Expr} {scope : Scope} {pos spos : Pos} {items : List PV} {kp : PV → Bool} {f : PV → PV} {Vc : Vars} (hy : C.St y)
    (hsw : swapsWith (.ListComp elt [⟨.Name x px, iter, ifs, 0⟩] scope pos) (some (.Name y py)) spos.line C.env = pure true)
    (co : CompOk C V Vc scope x) (hi : It C V M iter items) (hsz : items.length ≤ sizeLine)
    (hbody : ∀ Ca, ∀ p ∈ items, CT (compCx C scope Ca) ((x, p) :: Vc) [] ifs (kp p) ∧ (kp p = true → EV (compCx C scope Ca) ((x, p) :: Vc) [] elt (f p)))
    (hs : ∀ x, foldedSetIterable iter C.env x = pure x) (h : K .next ((y, .list ((items.filter kp).map f)) :: V) M) :
    EX1 C V M (.Assign [.Name y py] (.ListComp elt [⟨.Name x px, iter, ifs, 0⟩] scope pos) spos) K := fun ok B s Q E hE tk k => by
  rw [exec_Assign_Name_used _ _ _ _ hsw]
  refine wpAny_bind (wpAny_standAt (wpAny_bind ?_))
  show wpAny _ C.A (do let _ ← comprehension (.ListComp elt [⟨.Name x px, iter, ifs, 0⟩] scope pos) scope C.env _ (PySem.newList []) false (eval iter C.env) (some (PySem.assign (.Name y py) C.env))) _ _ s
  refine wpAny_bind (wpAny_mono (wpAny_comprehension_free (use := some (PySem.assign (.Name y py) C.env)) (Q := fun _ s' => Q .next s') rfl hs (closureFor_cl co.free) co.kind co.names
    (comp_run (RR := fun acc Ca => compPost (model C.prog C.w) C.A E (some (PySem.assign (.Name y py) C.env)) (fun _ s' => Q .next s') acc Ca) co hi hsz hbody ok hE tk fun D Ca ys n m h' t' hD hCa hne kp hDv hr hns => ?_)) (fun _ s' hq => wpAny_pure (wpAny_pure hq)) fun _ _ e => e)
  show wpAny _ C.A (PySem.assign (.Name y py) C.env (.ref D)) _ _ _
  refine wpAny_assign_Name (wp_store_over ok hy hE kp hCa hns (l := .list ((items.filter _).map f)) ⟨D, ys, n, rfl, vis_of hDv fun q => ?_, hr⟩ fun h2 t2 e2 => k .next .next _ _ h2 t2 e2 rfl h)
  rcases List.mem_cons.mp q with q | q
  · exact hne q
  · exact hE.fresh hD q

theorem EX1.append {x : Str} {np ap pos spos : Pos} {e : Expr} {a : Addr} {M₁ M₂ : Owns} {l : List PV} {p : PV} (hx : EV C V (M₁ ++ (a, .list l) :: M₂) (.Name x np) (.at a)) (hs : starEach [e] C.env = [(false, eval e C.env)]) (he : EV C V (M₁ ++ (a, .list l) :: M₂) e p) (hl : l.length ≤ sizeLine)
    (hbase : attributeBase (.Name x np) (Str.ofString "append") C.env (eval (.Name x np) C.env) = eval (.Name x np) C.env) (hline : (ap.endLine == pos.line) = true) (hi : interactive C.env = false) (hsw : swapsWith (.Call (.Attribute (.Name x np) (Str.ofString "append") ap) [e] [] pos) none spos.line C.env = pure false)
    (h : K .next V (M₁ ++ (a, .list (l ++ [p])) :: M₂)) : EX1 C V (M₁ ++ (a, .list l) :: M₂) (.Expr (.Call (.Attribute (.Name x np) (Str.ofString "append") ap) [e] [] pos) spos) K := fun ok B s Q E hE tk k => by
  refine wpAny_Expr ?_ hi hsw
  refine Call_method1 hbase hs hline (hx.then ok hE tk fun v h1 t1 k1 e1 p1 r1 => ?_)
  cases r1
  have hin : (a, MO.list l) ∈ M₁ ++ (a, MO.list l) :: M₂ := List.mem_append_right _ List.mem_cons_self
  obtain ⟨⟨vs, n, q, r⟩, _, _⟩ := e1.own _ hin
  refine ⟨"list", "list.append", mth_append.pa, mth_append.slot, mth_append.ty, ⟨_, q, rfl⟩, fun b z => by cases z; exact ⟨_, q, rfl⟩, ?_⟩
  refine Calls.callWith_builtin rfl (Calls.evalArgs_plain (Calls.spliced_cons (he.then ok (s := { s with heap := h1, toks := t1 }) e1 p1 fun y h2 t2 k2 e2 p2 r2 => Calls.spliced_nil ?_)))
  obtain ⟨⟨vs, n, q, r⟩, _, _⟩ := e2.own _ hin
  have q' : h2.get? a = some (listObj vs n) := q
  refine call_meets slot_list_append ⟨_, q', rfl⟩ F.entry_list_append (F.args_list_append_2 _ _) (AutoListH.list_append_list_val_0 a vs.toArray n y (by rw [List.size_toArray, r.len]; exact hl)) ⟨q', ?_⟩
  have hs7 : Heap.SameBut a h2 (h2.update a (Obj.mapSeq fun a => a.push y)) := Heap.SameBut.update ..
  obtain ⟨k', hD7⟩ : ∃ k', (h2.update a (Obj.mapSeq fun a => a.push y)).get? a = some (listObj (vs ++ [y]) k') :=
    ⟨_, (Heap.get?_update_self _ q' rfl).trans (by show some (Obj.mk _ _ (Data.seq (vs.toArray.push y) _) _) = some (Obj.mk _ _ (Data.seq (vs ++ [y]).toArray _) _); rw [List.push_toArray])⟩
  have hl7 : LookLe (C.look B (M₁ ++ (a, .list l) :: M₂) h2) (C.look B (M₁ ++ (a, .list l) :: M₂) (h2.update a (Obj.mapSeq fun a => a.push y))) := vis_but (fun c o n e => hs7.extBut c o n e) (List.mem_append_left _ (List.mem_map.mpr ⟨_, hin, rfl⟩))
  have e7 := e2.upd (m' := .list (l ++ [p])) hs7 ⟨_, k', hD7, RepL.snoc (RepL.mono hl7 _ r) (r2.get hl7)⟩
  exact k .next .next _ _ _ t2 e7 rfl h
end
end Mine

/-! LayH -/
namespace Mine
open PySem PySem.W PySem.Calls PyProof.Rows
set_option Elab.async false
section
variable {C : Cx} {V : Vars} {M : Owns} {K : Cont}

theorem Bi.notIn_str {a b : Str} : Bi C V M (compareOp .NotIn) (.str a) (.str b) (.bool (!Txt.contains b a)) := fun ok B _ _ s Q E hE tk r1 r2 k => by
  obtain ⟨t, rfl⟩ := r1; obtain ⟨u, rfl⟩ := r2
  exact SB.notContains (k _ s.heap s.toks .rfl rfl)
theorem Bi.in_str {a b : Str} : Bi C V M (compareOp .In) (.str a) (.str b) (.bool (Txt.contains b a)) := fun ok B _ _ s Q E hE tk r1 r2 k => by
  obtain ⟨t, rfl⟩ := r1; obtain ⟨u, rfl⟩ := r2
  exact SB.contains (k _ s.heap s.toks .rfl rfl)
theorem Bi.is_bool {a b : Bool} : Bi C V M (compareOp .Is) (.bool a) (.bool b) (.bool (a == b)) := fun ok B _ _ s Q E hE tk r1 r2 k => by
  cases r1; cases r2
  exact PyProof.Rows.is_bool (k _ s.heap s.toks .rfl rfl)
theorem Bi.ne_bool {a b : Bool} : Bi C V M (compareOp .NotEq) (.bool a) (.bool b) (.bool (a != b)) := fun ok B _ _ s Q E hE tk r1 r2 k => by
  cases r1; cases r2
  exact PyProof.Rows.ne_bool (k _ s.heap s.toks .rfl rfl)
theorem Bi.ge_int {a b : Int} : Bi C V M (compareOp .GtE) (.int a) (.int b) (.bool (decide (b ≤ a))) := fun ok B _ _ s Q E hE tk r1 r2 k => by
  obtain ⟨t, rfl⟩ := r1; obtain ⟨u, rfl⟩ := r2
  exact PyProof.Rows.ge_int (k _ s.heap s.toks .rfl rfl)
theorem Bi.ne_int {a b : Int} : Bi C V M (compareOp .NotEq) (.int a) (.int b) (.bool (a != b)) := fun ok B _ _ s Q E hE tk r1 r2 k => by
  obtain ⟨t, rfl⟩ := r1; obtain ⟨u, rfl⟩ := r2
  exact PyProof.Rows.ne_int (k _ s.heap s.toks .rfl rfl)
theorem Bi.iadd_str {a b : Str} (hz : a.length + b.length ≤ sizeLine) : Bi C V M (inplaceOp .Add) (.str a) (.str b) (.str (a ++ b)) := fun ok B _ _ s Q E hE tk r1 r2 k => by
  obtain ⟨t, rfl⟩ := r1; obtain ⟨u, rfl⟩ := r2
  exact SB.iadd (fun t' tk => k _ s.heap tk .rfl ⟨_, rfl⟩) hz
theorem Bi.iadd_int {a b : Int} : Bi C V M (inplaceOp .Add) (.int a) (.int b) (.int (a + b)) := fun ok B _ _ s Q E hE tk r1 r2 k => by
  obtain ⟨t, rfl⟩ := r1; obtain ⟨u, rfl⟩ := r2
  exact PySem.P.iadd_int (k _ s.heap (s.toks + 1) .rfl ⟨_, rfl⟩)
theorem Bi.isub_int {a b : Int} : Bi C V M (inplaceOp .Sub) (.int a) (.int b) (.int (a - b)) := fun ok B _ _ s Q E hE tk r1 r2 k => by
  obtain ⟨t, rfl⟩ := r1; obtain ⟨u, rfl⟩ := r2
  exact PySem.P.isub_int (k _ s.heap (s.toks + 1) .rfl ⟨_, rfl⟩)
theorem Bi.pow_int {a b : Int} (h1 : b ≥ 0) (h2 : ¬(b == 0) = true) (h3 : ¬(a == 0 || a == 1) = true) (h4 : ¬(a == -1) = true) (h5 : ¬Builtin.Int.intTooBig ((Builtin.Int.intBits a : Int) * b) = true) :
    Bi C V M (binaryOp .Pow) (.int a) (.int b) (.int (a ^ b.toNat)) := fun ok B _ _ s Q E hE tk r1 r2 k => by
  obtain ⟨t, rfl⟩ := r1; obtain ⟨u, rfl⟩ := r2
  exact AutoIntOps.pow_4 h1 h2 h3 h4 h5 (k _ s.heap (s.toks + 1) .rfl ⟨_, rfl⟩)

theorem Tr.str {x : Str} (hz : x.length ≤ sizeLine) : Tr C V M (.str x) ((x.length : Int) != 0) := fun ok B a s Q E hE tk r k => by
  obtain ⟨t, rfl⟩ := r
  have : (sizeLine : Int) < 2 ^ 63 := by decide
  exact PySem.P.truthy_str (by omega) (k s.heap _ .rfl)
theorem Tr.list {l : List PV} (hz : l.length ≤ sizeLine) : Tr C V M (.list l) (!l.isEmpty) := fun ok B a s Q E hE tk r k => by
  obtain ⟨a, vs, n, rfl, q, r⟩ := r
  have : (sizeLine : Int) < 2 ^ 63 := by decide
  have e : (!vs.toArray.isEmpty) = !l.isEmpty := by have := r.len; cases vs <;> cases l <;> simp_all
  refine wpAny_truthy_list ⟨_, (vis_get q).1, rfl, n, rfl⟩ (by rw [List.size_toArray, r.len]; omega) ?_
  rw [e]
  exact k s.heap _ .rfl
theorem Bn.len_str {x : Str} (hz : x.length ≤ sizeLine) : Bn C V M "len" [.str x] (.int x.length) := fun ok B vs s Q E hE tk r k => by
  obtain ⟨v, r', rfl, ⟨t, rfl⟩, h2⟩ := r; cases h2
  have : (sizeLine : Int) < 2 ^ 63 := by decide
  exact SBL.len (by omega) (k _ s.heap (s.toks + 1 + 1) .rfl ⟨_, rfl⟩)
theorem Bn.len_list {l : List PV} (hz : l.length ≤ sizeLine) : Bn C V M "len" [.list l] (.int l.length) := fun ok B vs s Q E hE tk r k => by
  obtain ⟨v, r', rfl, ⟨a, vs, n, rfl, q, r⟩, h2⟩ := r; cases h2
  have : (sizeLine : Int) < 2 ^ 63 := by decide
  have e : (vs.toArray.size : Int) = (l.length : Int) := by rw [List.size_toArray, r.len]
  exact Calls.call_len_list (s := s) ⟨_, (vis_get q).1, rfl, n, rfl⟩ (by rw [e]; omega) (k _ s.heap (s.toks + 1 + 1) .rfl ⟨_, by rw [e]⟩)
theorem Bn.startswith {x y : Str} : Bn C V M "str.startswith" [.str x, .str y] (.bool (Txt.startswith x y)) := fun ok B vs s Q E hE tk r k => by
  obtain ⟨v, r', rfl, ⟨t, rfl⟩, v', r'', rfl, ⟨u, rfl⟩, h2⟩ := r; cases h2
  exact SC.startswith (k _ s.heap s.toks .rfl rfl)
theorem Bn.endswith {x y : Str} : Bn C V M "str.endswith" [.str x, .str y] (.bool (Txt.endswith x y)) := fun ok B vs s Q E hE tk r k => by
  obtain ⟨v, r', rfl, ⟨t, rfl⟩, v', r'', rfl, ⟨u, rfl⟩, h2⟩ := r; cases h2
  exact SC.endswith (k _ s.heap s.toks .rfl rfl)
theorem Bn.count {x y : Str} : Bn C V M "str.count" [.str x, .str y] (.int (Txt.count x y)) := fun ok B vs s Q E hE tk r k => by
  obtain ⟨v, r', rfl, ⟨t, rfl⟩, v', r'', rfl, ⟨u, rfl⟩, h2⟩ := r; cases h2
  exact SC.count (k _ s.heap (s.toks + 1) .rfl ⟨_, rfl⟩)
theorem Bn.upper {x : Str} (hf : Builtin.Str.tooLong (Txt.upper x).length = false) : Bn C V M "str.upper" [.str x] (.str (Txt.upper x)) := fun ok B vs s Q E hE tk r k => by
  obtain ⟨v, r', rfl, ⟨t, rfl⟩, h2⟩ := r; cases h2
  exact SC.upper hf (k _ s.heap (s.toks + 1) .rfl ⟨_, rfl⟩)
theorem Bn.lower {x : Str} (hf : Builtin.Str.tooLong (Txt.lower x).length = false) : Bn C V M "str.lower" [.str x] (.str (Txt.lower x)) := fun ok B vs s Q E hE tk r k => by
  obtain ⟨v, r', rfl, ⟨t, rfl⟩, h2⟩ := r; cases h2
  exact SC.lower hf (k _ s.heap (s.toks + 1) .rfl ⟨_, rfl⟩)
theorem Bn.ord {c : Nat} : Bn C V M "ord" [.str ⟨#[c]⟩] (.int c) := fun ok B vs s Q E hE tk r k => by
  obtain ⟨v, r', rfl, ⟨t, rfl⟩, h2⟩ := r; cases h2
  exact PySem.P.ord_of_char (k _ s.heap (s.toks + 1) .rfl ⟨_, rfl⟩)

end
end Mine

/-! LayI -/
namespace Mine
open PySem PySem.W PySem.Calls PyProof.Rows
set_option Elab.async false
section
variable {C : Cx} {V : Vars} {M : Owns} {K : Cont}

theorem mth_find : Mth "str" "find" "str.find" := ⟨F.plainAttrs_str, F.slot_str_find, by exact F.type_str_find⟩
theorem mth_split : Mth "str" "split" "str.split" := ⟨F.plainAttrs_str, F.slot_str_split, by exact F.type_str_split⟩
theorem mth_join : Mth "str" "join" "str.join" := ⟨F.plainAttrs_str, F.slot_str_join, by exact F.type_str_join⟩
theorem mth_replace : Mth "str" "replace" "str.replace" := ⟨F.plainAttrs_str, F.slot_str_replace, by exact F.type_str_replace⟩
theorem mth_upper : Mth "str" "upper" "str.upper" := ⟨F.plainAttrs_str, F.slot_str_upper, by exact F.type_str_upper⟩
theorem mth_lower : Mth "str" "lower" "str.lower" := ⟨F.plainAttrs_str, F.slot_str_lower, by exact F.type_str_lower⟩
theorem mth_count : Mth "str" "count" "str.count" := ⟨F.plainAttrs_str, F.slot_str_count, by exact F.type_str_count⟩
theorem mth_startswith : Mth "str" "startswith" "str.startswith" := ⟨F.plainAttrs_str, F.slot_str_startswith, by exact F.type_str_startswith⟩
theorem mth_endswith : Mth "str" "endswith" "str.endswith" := ⟨F.plainAttrs_str, F.slot_str_endswith, by exact F.type_str_endswith⟩
theorem mth_get : Mth "dict" "get" "dict.get" := ⟨F.plainAttrs_dict, F.slot_dict_get, by exact F.type_dict_get⟩

/-- where y stands first in x from i up to j -/
def findTo (x y : Str) (i j : Int) : Int := match Builtin.Str.occurrences x y (fromIndex x.length i) (min (fromIndex x.length j) x.length) 1 with | k :: _ => (k : Int) | [] => -1
def findFrom (x y : Str) (i : Int) : Int := match Builtin.Str.occurrences x y (fromIndex x.length i) x.length 1 with | k :: _ => (k : Int) | [] => -1
open Builtin Builtin.Str in
theorem gives_find4 (x y : Str) (i j : Int) (t u v z : Tok) : Gives («str.find» ⟨[.str x t, .str y u, .int i v, .int j z], []⟩) (.int (findTo x y i j)) := by
  show Gives (match occurrences x y (fromIndex x.length i) (min (fromIndex x.length j) x.length) 1 with | k :: _ => retInt k | [] => (do rule "str.find.not-found"; retInt (-1))) _
  unfold findTo
  cases occurrences x y (fromIndex x.length i) (min (fromIndex x.length j) x.length) 1 with
  | nil => exact .rule (.of_eq rfl)
  | cons k _ => exact .of_eq rfl
theorem Bn.find4 {x y : Str} {i j : Int} : Bn C V M "str.find" [.str x, .str y, .int i, .int j] (.int (findTo x y i j)) := fun ok B vs s Q E hE tk r k => by
  obtain ⟨v, r', rfl, ⟨t, rfl⟩, v', r'', rfl, ⟨u, rfl⟩, v2, r2, rfl, ⟨u2, rfl⟩, v3, r3, rfl, ⟨u3, rfl⟩, h2⟩ := r; cases h2
  exact call_gives F.slot_str_find (typeIs_str _ _ _) F.entry_str_find (F.args_str_find_4 _ _ _ _) (gives_find4 x y i j t u u2 u3) (k _ s.heap (s.toks + 1) .rfl ⟨_, rfl⟩)
theorem Bn.find3 {x y : Str} {i : Int} : Bn C V M "str.find" [.str x, .str y, .int i] (.int (findFrom x y i)) := fun ok B vs s Q E hE tk r k => by
  obtain ⟨v, r', rfl, ⟨t, rfl⟩, v', r'', rfl, ⟨u, rfl⟩, v2, r2, rfl, ⟨u2, rfl⟩, h2⟩ := r; cases h2
  exact call_gives F.slot_str_find (typeIs_str _ _ _) F.entry_str_find (F.args_str_find_3 _ _ _) (gives_str_find_from x y i t u u2) (k _ s.heap (s.toks + 1) .rfl ⟨_, rfl⟩)

theorem RepL.strs {P : Params} {L : Look} : ∀ {texts : List Str} {vs : List Value}, RepL P L (texts.map .str) vs → ∃ l : List (Str × Tok), vs = strValues l ∧ l.map (·.1) = texts
  | [], _, h => by cases h; exact ⟨[], rfl, rfl⟩
  | x :: xs, _, h => by
    obtain ⟨v, r, rfl, ⟨t, rfl⟩, h2⟩ := h
    obtain ⟨l, rfl, e⟩ := RepL.strs h2
    exact ⟨(x, t) :: l, rfl, by rw [List.map_cons, e]⟩
theorem RepL.ofStrs {P : Params} {L : Look} : ∀ (l : List (Str × Tok)), RepL P L ((l.map (·.1)).map .str) (strValues l)
  | [] => rfl
  | (x, t) :: l => ⟨_, _, rfl, ⟨t, rfl⟩, RepL.ofStrs l⟩
theorem listObj_of {h : Heap} {a : Addr} {vs : List Value} {n : Nat} (e : h.get? a = some (listObj vs n)) : h.IsList a vs.toArray := ⟨_, e, rfl, n, rfl⟩
theorem listObj_to {h : Heap} {a : Addr} {vs : List Value} (x : h.IsList a vs.toArray) : ∃ n c, h.get? a = some c ∧ c.cls = .type "list" ∧ c.data = .seq vs.toArray n := by
  obtain ⟨o, e, h1, n, h2⟩ := x; exact ⟨n, o, e, h1, h2⟩
theorem Bn.join {x : Str} {texts : List Str} (hk : JoinOk x texts = true) : Bn C V M "str.join" [.str x, .list (texts.map .str)] (.str (Txt.join x texts)) := fun ok B vs s Q E hE tk r k => by
  obtain ⟨v, r', rfl, ⟨t, rfl⟩, v', r'', rfl, ⟨a, ws, n, rfl, q, r⟩, h2⟩ := r; cases h2
  obtain ⟨l, rfl, e⟩ := RepL.strs r
  exact SC.join (s := s) (listObj_of (vis_get q).1) e hk fun t' k' => k _ s.heap k' .rfl ⟨_, rfl⟩

/-- the two cut-out texts of a replace stand in the text of the program -/
theorem EV.replaceC {o : Expr} {apos pos cp1 cp2 : Pos} {ck1 ck2 : Nat} {x y z : Str} (ho : EV C V M o (.str x)) (hbase : attributeBase o (Str.ofString "replace") C.env (eval o C.env) = eval o C.env) (hline : (apos.endLine == pos.line) = true)
    (hb : x.length + (x.length + 1) * z.length ≤ 16777216) : EV C V M (.Call (.Attribute o (Str.ofString "replace") apos) [.Constant (.str y) ck1 cp1, .Constant (.str z) ck2 cp2] [] pos) (.str (Txt.replace x y z)) := fun ok B s Q E hE tk k => by
  refine wpAny_Call_method_lateS hbase rfl hline (ho.then ok hE tk fun v h1 t1 k1 e1 p1 r1 => ?_)
  obtain ⟨t, rfl⟩ := r1
  refine ⟨"str", "str.replace", mth_replace.pa, mth_replace.slot, mth_replace.ty, typeIs_str _ _ _, (fun _ e => nomatch e), ?_⟩
  refine Calls.callWith_builtin rfl (Calls.evalArgs_plain (Calls.spliced_cons (wpAny_Constant_str (k := ck1) (pos := cp1) (Calls.spliced_cons (wpAny_Constant_str (k := ck2) (pos := cp2) (Calls.spliced_nil ?_))))))
  exact SC.replaceA (Nat.pos_iff_ne_zero.mp p1) (Nat.succ_ne_zero _) (Nat.ne_of_lt (Nat.lt_succ_self _)) hb (fun t' k' => k _ h1 k' k1 ⟨_, rfl⟩) e1.G.nb

theorem new_list {B : Bs} {h : Heap} {vs : List Value} {n : Nat} {l : List PV} (hE : Est C B V M h) (r : RepL C.w.params (C.look B M (h.push (listObj vs n))) l vs) : Rep C.w.params (C.look B M (h.push (listObj vs n))) (.list l) (.ref h.objs.size) :=
  ⟨_, vs, n, rfl, vis_of (Heap.get?_push_size _ rfl) (hE.fresh (get_size h)), r⟩
theorem new_tup {B : Bs} {h : Heap} {vs : List Value} {n : Nat} {l : List PV} (hE : Est C B V M h) (r : RepL C.w.params (C.look B M (h.push (tupObj vs n))) l vs) : Rep C.w.params (C.look B M (h.push (tupObj vs n))) (.tup l) (.ref h.objs.size) :=
  ⟨_, vs, n, rfl, vis_of (Heap.get?_push_size _ rfl) (hE.fresh (get_size h)), r⟩
open Builtin Builtin.Str in
theorem Bn.split {x y : Str} (hy : (y.length == 0) = false) (hsz : x.length ≤ sizeLine) (hsz2 : (Builtin.Str.partsBetween x (Builtin.Str.occurrences x y 0 x.length (x.length + 1)) y.length).length ≤ sizeLine) : Bn C V M "str.split" [.str x, .str y] (.list ((Txt.split x y).map .str)) := fun ok B vs s Q E hE tk r k => by
  obtain ⟨v, r', rfl, ⟨t, rfl⟩, v', r'', rfl, ⟨u, rfl⟩, h2⟩ := r; cases h2
  have fin : ∀ (l : List (Str × Tok)) (tk' : Nat), l.map (·.1) = Txt.split x y → Q (.ref s.heap.objs.size) { s with heap := s.heap.push (listObj (strValues l) 0), toks := tk' } := fun l tk' e => by
    rw [← e] at k
    exact k _ _ tk' (Keep.rfl.push _) (new_list hE (RepL.ofStrs l))
  cases h1 : (decide (x.length < y.length) || decide (strKind x < strKind y))
  · cases hf : (occurrences x y 0 x.length (x.length + 1)).isEmpty
    · refine call_meets F.slot_str_split (typeIs_str _ _ _) F.entry_str_split (F.args_str_split_2 _ _) (meets_str_split_sep x y t u h1 hy hf hsz hsz2) ?_
      show wants Q E _ { s with toks := _, heap := s.heap.push { cls := .type "list", data := .seq (strsFrom s.toks (partsBetween x (occurrences x y 0 x.length (x.length + 1)) y.length)).toArray } }
      rw [strsFrom_eq]
      exact fin (numbered s.toks _) _ ((numbered_texts _ _).trans ((if_neg (ne_true_of_eq_false h1)).trans (if_neg (ne_true_of_eq_false hf))).symm)
    · exact call_meets F.slot_str_split (typeIs_str _ _ _) F.entry_str_split (F.args_str_split_2 _ _) (meets_str_split_not_found x y t u h1 hy hf)
        (fin [(x, t)] _ ((if_neg (ne_true_of_eq_false h1)).trans (if_pos hf)).symm)
  · exact call_meets F.slot_str_split (typeIs_str _ _ _) F.entry_str_split (F.args_str_split_2 _ _) (meets_str_split_cannot_occur x y t u h1)
      (fin [(x, t)] _ (if_pos h1).symm)

/-- an item told by a key -/
def Ix (C : Cx) (V : Vars) (M : Owns) (p q r : PV) : Prop :=
  C.Ok → ∀ (B : Bs) (a b : Value) (s : Shared) (Q : Value → Shared → Prop) (E : Value → Shared → Prop), Est C B V M s.heap → 0 < s.toks → Rep C.w.params (C.look B M s.heap) p a → Rep C.w.params (C.look B M s.heap) q b →
    (∀ v h' t', Keep s.heap h' → Rep C.w.params (C.look B M h') r v → Q v { s with heap := h', toks := t' }) → ItemOn (model C.prog C.w) C.A E a b Q s
theorem EV.sub {value slice : Expr} {pos : Pos} {p q r : PV} (hv : EV C V M value p) (hq : EV C V M slice q) (h : Ix C V M p q r) (hs : ∀ o i, ∃ ops, subscripted slice false o i = operate ops (getItem o i) := by exact fun _ _ => ⟨_, rfl⟩) : EV C V M (.Subscript value slice pos) r := fun ok B s Q E hE tk k => by
  refine PyProof.Rows.Subscript_ (hv.then ok hE tk fun a h1 t1 k1 e1 p1 r1 => ?_)
  refine hq.then ok (s := { s with heap := h1, toks := t1 }) e1 p1 fun b h2 t2 k2 e2 p2 r2 => ?_
  obtain ⟨T, id, hl, hT, hg⟩ := h ok B a b { s with heap := h2, toks := t2 } Q E e2 p2 (r1.get (vis_keep k2)) r2 fun v h3 t3 k3 r3 => k v h3 t3 (k1.trans (k2.trans k3)) r3
  obtain ⟨ops, ho⟩ := hs a b
  exact tail_any hT hl hg ho

theorem Ix.list {l : List PV} {i : Int} {p : PV} (h0 : 0 ≤ i) (hx : l[i.toNat]? = some p) (hf : i < 2 ^ 63) : Ix C V M (.list l) (.int i) p := fun ok B a b s Q E hE tk r1 r2 k => by
  obtain ⟨a, vs, n, rfl, q, r⟩ := r1; obtain ⟨u, rfl⟩ := r2
  obtain ⟨v, e, rv⟩ := r.get hx
  have hl : s.heap.IsList a vs.toArray := listObj_of (vis_get q).1
  exact ⟨"list", _, slot_list_getitem.lookup, hl.typeIs, wpAny_getItem_list hl h0 hf (by simpa using e) (k v s.heap s.toks .rfl rv)⟩
theorem Ix.listNeg {l : List PV} {i : Int} {p : PV} (h0 : i < 0) (h1 : -(l.length : Int) ≤ i) (h2 : -2 ^ 63 ≤ i) (hx : l[(i + l.length).toNat]? = some p) : Ix C V M (.list l) (.int i) p := fun ok B a b s Q E hE tk r1 r2 k => by
  obtain ⟨a, vs, n, rfl, q, r⟩ := r1; obtain ⟨u, rfl⟩ := r2
  obtain ⟨v, e, rv⟩ := r.get hx
  have hl : s.heap.IsList a vs.toArray := listObj_of (vis_get q).1
  exact ⟨"list", _, slot_list_getitem.lookup, hl.typeIs, wpAny_getItem_list_neg hl h0 (by rw [List.size_toArray, r.len]; exact h1) h2 (by rw [List.size_toArray, r.len]; simpa using e) (k v s.heap s.toks .rfl rv)⟩
theorem Ix.own {a : Addr} {l : List PV} {i : Int} {p : PV} (hm : (a, MO.list l) ∈ M) (h0 : 0 ≤ i) (hx : l[i.toNat]? = some p) (hf : i < 2 ^ 63) : Ix C V M (.at a) (.int i) p := fun ok B a' b s Q E hE tk r1 r2 k => by
  cases r1; obtain ⟨u, rfl⟩ := r2
  obtain ⟨⟨vs, n, q, r⟩, _⟩ := hE.own _ hm
  obtain ⟨v, e, rv⟩ := r.get hx
  have hl : s.heap.IsList a vs.toArray := listObj_of q
  exact ⟨"list", _, slot_list_getitem.lookup, hl.typeIs, wpAny_getItem_list hl h0 hf (by simpa using e) (k v s.heap s.toks .rfl rv)⟩
theorem Ix.str {x : Str} {i : Int} (hf : fitsSsize i = true) (hc : (Txt.charAt x i).isSome = true) : Ix C V M (.str x) (.int i) (.str (Txt.item x i)) := fun ok B a b s Q E hE tk r1 r2 k => by
  obtain ⟨t, rfl⟩ := r1; obtain ⟨u, rfl⟩ := r2
  exact SB.item hf hc (k _ s.heap (s.toks + 1) .rfl ⟨_, rfl⟩)

theorem RepD.kvs {P : Params} {L : Look} : ∀ {l : List (Str × PV)} {es : List DictEntry}, RepD P L l es → ∀ x, match l.lookup x with
    | some p => ∃ e, es.find? (fun e => Value.isStrOf x e.key) = some e ∧ Rep P L p e.val
    | none => es.find? (fun e => Value.isStrOf x e.key) = none
  | [], _, h, x => by cases h; rfl
  | (y, p) :: l, _, h, x => by
    obtain ⟨t, v, r, rfl, h1, h2⟩ := h
    have ih := h2.kvs x
    rw [lookup_cons_of]
    by_cases q : x = y
    · subst q
      rw [if_pos rfl]
      exact ⟨_, List.find?_cons_of_pos (by simp [Value.isStrOf]), h1⟩
    · rw [if_neg q, List.find?_cons_of_neg (by simp [Value.isStrOf, Ne.symm q])]
      exact ih
theorem dict_map {prog : Program} {w : World} {L : Look} {h : Heap} {a : Addr} {es : List DictEntry} {n : Nat} {l : List (Str × PV)} (e : h.get? a = some (dictOf es n)) (r : RepD w.params L l es) : h.MapOf (PySem.strKind prog w) a (findBy Value.isStrOf es.toArray) := by
  refine ⟨_, es.toArray, n, e, ⟨rfl, rfl, rfl⟩, rfl, fun d hd => ?_, fun k => rfl⟩
  have hd' : d ∈ es := by simpa using hd
  clear e hd
  induction l generalizing es with
  | nil => cases r; cases hd'
  | cons q l ih =>
    obtain ⟨y, p⟩ := q
    obtain ⟨t, v, r', rfl, h1, h2⟩ := r
    rcases List.mem_cons.mp hd' with z | z
    · subst z
      exact ⟨y, by simp [PySem.strKind, Value.isStrOf], rfl⟩
    · exact ih h2 z
theorem Ix.dict {l : List (Str × PV)} {x : Str} {p : PV} (hx : l.lookup x = some p) : Ix C V M (.dict l) (.str x) p := fun ok B a b s Q E hE tk r1 r2 k => by
  obtain ⟨a, es, n, rfl, hs, q, r⟩ := r1; obtain ⟨u, rfl⟩ := r2
  have z := r.kvs x
  rw [hx] at z
  obtain ⟨e, h1, h2⟩ := z
  have hm := dict_map (prog := C.prog) (vis_get q).1 r
  refine ⟨"dict", _, slot_dict_getitem.lookup, hm.typeIs, wpAny_getItem_of (k := x) (v := e.val) (by simp [PySem.strKind, Value.isStrOf]) hm ?_ (k _ s.heap (s.toks + 1) .rfl h2)⟩
  simp [findBy, h1]
theorem Bi.in_dict {l : List (Str × PV)} {x : Str} : Bi C V M (compareOp .In) (.str x) (.dict l) (.bool (l.lookup x).isSome) := fun ok B _ _ s Q E hE tk r1 r2 k => by
  obtain ⟨t, rfl⟩ := r1; obtain ⟨a, es, n, rfl, hs, q, r⟩ := r2
  have hm := dict_map (prog := C.prog) (vis_get q).1 r
  have z := r.kvs x
  refine wpAny_in_of (k := x) (by simp [PySem.strKind, Value.isStrOf]) hs hm (k _ s.heap (s.toks + 1) .rfl ?_)
  show Value.bool _ = Value.bool _
  congr 1
  cases hx : l.lookup x with
  | none => rw [hx] at z; simp [findBy, z]
  | some p => rw [hx] at z; obtain ⟨e, h1, _⟩ := z; simp [findBy, h1]
theorem Bi.notIn_dict {l : List (Str × PV)} {x : Str} : Bi C V M (compareOp .NotIn) (.str x) (.dict l) (.bool (!(l.lookup x).isSome)) := fun ok B _ _ s Q E hE tk r1 r2 k => by
  obtain ⟨t, rfl⟩ := r1; obtain ⟨a, es, n, rfl, hs, q, r⟩ := r2
  have hm := dict_map (prog := C.prog) (vis_get q).1 r
  have z := r.kvs x
  refine wpAny_notIn_of (k := x) (by simp [PySem.strKind, Value.isStrOf]) hs hm (k _ s.heap (s.toks + 1) .rfl ?_)
  show Value.bool _ = Value.bool _
  congr 2
  cases hx : l.lookup x with
  | none => rw [hx] at z; simp [findBy, z]
  | some p => rw [hx] at z; obtain ⟨e, h1, _⟩ := z; simp [findBy, h1]
theorem Bn.get2 {l : List (Str × PV)} {x : Str} {d : PV} : Bn C V M "dict.get" [.dict l, .str x, d] ((l.lookup x).getD d) := fun ok B vs s Q E hE tk r k => by
  obtain ⟨v, r', rfl, ⟨a, es, n, rfl, hs, q, r⟩, v', r'', rfl, ⟨u, rfl⟩, v3, r3, rfl, rd, h2⟩ := r; cases h2
  have hm := dict_map (prog := C.prog) (vis_get q).1 r
  have z := r.kvs x
  refine call_meetsIn F.slot_dict_get hm.typeIs F.entry_dict_get (F.args_dict_get_3 _ _ _) (meets_dict_get_default (PySem.strKind C.prog C.w) a (k := x) (by simp [PySem.strKind, Value.isStrOf]) hs v3) ⟨_, hm, k _ s.heap (s.toks + 1) .rfl ?_⟩
  cases hx : l.lookup x with
  | none => rw [hx] at z; simpa [findBy, z] using rd
  | some p => rw [hx] at z; obtain ⟨e, h1, h2⟩ := z; simpa [findBy, h1] using h2

theorem EV.ifExp {test body orelse : Expr} {pos : Pos} {b : Bool} {p : PV} (ht : ET C V M test b) (h1 : b = true → EV C V M body p) (h2 : b = false → EV C V M orelse p) : EV C V M (.IfExp test body orelse pos) p := fun ok B s Q E hE tk k => by
  refine wpAny_IfExp (ht.then ok hE tk fun h' t' kp e1 p1 => ?_)
  cases b
  · exact h2 rfl ok B { s with heap := h', toks := t' } Q E e1 p1 fun v h2 t2 k2 r2 => k v h2 t2 (kp.trans k2) r2
  · exact h1 rfl ok B { s with heap := h', toks := t' } Q E e1 p1 fun v h2 t2 k2 r2 => k v h2 t2 (kp.trans k2) r2
theorem SN.list {es : List Expr} {pos : Pos} {ps : List PV} (hs : starEach es C.env = es.map fun e => (false, eval e C.env)) (h : EVs C V M es ps) (hl : es.length ≤ sizeLine) : SN C V M (eval (.List es pos) C.env) ps := fun ok B s Q E hE tk k => by
  refine wpAny_List ?_
  rw [hs]
  refine h.run ok hE tk fun vs h' t' kp e1 p1 r => ⟨by rw [r.len, h.len]; exact hl, ?_⟩
  refine k _ vs 0 _ t' ?_ (Heap.get?_push_size _ rfl) (RepL.mono (vis_keep (Keep.rfl.push _)) _ r) (kp.push _)
  cases q : s.heap.get? h'.objs.size with
  | none => rfl
  | some o => have := kp _ _ q; rw [get_size] at this; cases this
theorem EV.tuple {es : List Expr} {k : Nat} {pos : Pos} {ps : List PV} (hs : starEach es C.env = es.map fun e => (false, eval e C.env)) (h : EVs C V M es ps) (hl : es.length ≤ sizeLine) : EV C V M (.Tuple es k pos) (.tup ps) := fun ok B s Q E hE tk k => by
  refine wpAny_Tuple ?_
  rw [hs]
  refine h.run ok hE tk fun vs h' t' kp e1 p1 r => ⟨by rw [r.len, h.len]; exact hl, ?_⟩
  exact k _ _ t' (kp.push _) (new_tup (n := 0) e1 (RepL.mono (vis_keep (Keep.rfl.push _)) _ r))
end
end Mine

/-! LayJ -/
namespace Mine
open PySem PySem.W PySem.Calls PyProof.Rows
set_option Elab.async false
section
variable {C : Cx} {V : Vars} {M : Owns} {K : Cont}

theorem Est.base_rebase {B : Bs} {h : Heap} (x : Est C B V M h) : LookLe (vis B.h₀ (C.hb B)) (vis (hideAll h (C.own M)) (C.hb ⟨hideAll h (C.own M), B.X⟩)) := fun a o e => by
  obtain ⟨e1, n⟩ := vis_get e
  have := x.strip_keep [] (fun _ q => nomatch q)
  rw [List.append_nil] at this
  exact vis_of (this a o e1) n

/-- a pair taken apart -/
theorem wp_pair {x y : Str} {px py tp : Pos} {kx : Nat} {p q : PV} {T : Addr} {v0 v1 : Value} {B : Bs} {s : Shared} {Q : Unit → Shared → Prop} {E : Value → Shared → Prop} (ok : C.Ok) (hx : C.St x) (hy : C.St y)
    (hE : Est C B V M s.heap) (tk : 0 < s.toks) (hT : s.heap.IsTuple T #[v0, v1]) (hp : Rep C.w.params (vis B.h₀ (C.hb B)) p v0) (hq : Rep C.w.params (vis B.h₀ (C.hb B)) q v1)
    (k : ∀ h' t', Est C B ((y, q) :: (x, p) :: V) M h' → 0 < t' → Q () { s with heap := h', toks := t' }) : wpAny (model C.prog C.w) C.A (assign (.Tuple [.Name x px, .Name y py] kx tp) C.env (.ref T)) Q E s := by
  refine wpAny_assign_Tuple ok.hh hT rfl rfl fun h₃ hx₃ => ?_
  have up₃ : Keep s.heap h₃ := fun b o x => hx₃ b o (Nat.ne_of_lt (Heap.lt_size x)) x
  have e3 := hE.kept up₃
  show wpAny _ C.A (do holding [v1] (assign (.Name x px) C.env v0); do holding [] (assign (.Name y py) C.env v1); pure ()) _ _ _
  refine wpAny_bind (wpAny_holding (wpAny_assign_Name (wpAny_tk (s := { s with heap := h₃ }) tk (wp_store ok (s := { s with heap := h₃ }) hx e3 (hp.get e3.base_look) fun h4 t4 e4 p4 => ?_))))
  refine wpAny_bind (wpAny_holding (wpAny_assign_Name (wpAny_tk (s := { s with heap := h4, toks := t4 }) p4 (wp_store ok (s := { s with heap := h4, toks := t4 }) hy e4 (hq.get e4.base_look) fun h5 t5 e5 p5 => ?_))))
  exact wpAny_pure (k h5 t5 e5 p5)

theorem seen_hide {B : Bs} {h1 : Heap} {wr : List Addr} : LookLe (vis h1 (wr ++ C.hid B M)) (vis (hideAll h1 (C.own M ++ wr)) (C.hb ⟨hideAll h1 (C.own M ++ wr), wr ++ B.X⟩)) := fun a o e => by
  obtain ⟨e1, n⟩ := vis_get e
  have nw : a ∉ wr := fun q => n (List.mem_append_left _ q)
  have nh : a ∉ C.hid B M := fun q => n (List.mem_append_right _ q)
  refine vis_of (hideAll_get _ e1 fun hm => ?_) fun hm => ?_
  · rcases List.mem_append.mp hm with q | q
    · rcases List.mem_append.mp q with q | q
      · exact nh (List.mem_append_left _ q)
      · rcases List.mem_cons.mp q with q | q
        · exact nh (List.mem_append_right _ (q ▸ List.mem_cons_self))
        · split at q
          · exact nh (List.mem_append_right _ (List.mem_cons_of_mem _ (List.mem_append_left _ q)))
          · cases q
    · exact nw q
  · rcases List.mem_cons.mp hm with q | q
    · exact nh (List.mem_append_right _ (q ▸ List.mem_cons_self))
    · rcases List.mem_append.mp q with q | q
      · exact nh (List.mem_append_right _ (List.mem_cons_of_mem _ (List.mem_append_left _ q)))
      · rcases List.mem_append.mp q with q | q
        · exact nw q
        · exact nh (List.mem_append_right _ (List.mem_cons_of_mem _ (List.mem_append_right _ q)))

/-- what e hands a loop, pair by pair -/
def ItP (C : Cx) (V : Vars) (M : Owns) (e : Expr) (items : List (PV × PV)) : Prop :=
  C.Ok → ∀ (B : Bs) (s : Shared) (Q : Value → Shared → Prop) (E : Value → Shared → Prop), Est C B V M s.heap → 0 < s.toks →
    (∀ I fp wr P St Mid h' t', Keep s.heap h' → WalksU C.prog C.w C.A I fp wr items.length P St Mid → St 0 h' → (∀ b ∈ wr, s.heap.get? b = none) → (∀ i h, St i h → ∀ b ∈ wr, ∃ o, h.get? b = some o) →
      (∀ b ∈ fp, b ∈ wr ∨ ∃ o, vis h' (wr ++ C.hid B M) b = some o) →
      (∀ i p q vals, items[i]? = some (p, q) → P i vals → ∃ v0 v1, vals = #[v0, v1] ∧ Rep C.w.params (vis h' (wr ++ C.hid B M)) p v0 ∧ Rep C.w.params (vis h' (wr ++ C.hid B M)) q v1) → 0 < t' → Q (.ref I) { s with heap := h', toks := t' }) →
    wpAny (model C.prog C.w) C.A (eval e C.env) (fun x s₁ => wpAny (model C.prog C.w) C.A (pyIter x) Q E s₁) E s

theorem EX1.forP {x y : Str} {px py tp pos : Pos} {kx : Nat} {iter : Expr} {body : List Stmt} {items : List (PV × PV)} (I : List (PV × PV) → Vars → Owns → Prop) (hx : C.env.kindOf x = some .local) (hy : C.env.kindOf y = some .local) (hi : ItP C V M iter items) (h0 : I [] V M)
    (turn : ∀ done p q rest V' M', items = done ++ (p, q) :: rest → I done V' M' → EX C ((y, q) :: (x, p) :: V') M' body (Turned K (I (done ++ [(p, q)]))))
    (fin : ∀ V' M', I items V' M' → K .next V' M') (hs : ∀ x, foldedSetIterable iter C.env x = pure x) : EX1 C V M (.For (.Tuple [.Name x px, .Name y py] kx tp) iter body [] pos) K := fun ok B s Q E hE tk k => by
  refine wpAny_For (hi ok B s _ E hE tk fun It fp wr P St Mid h1 t1 k1 W st0 hwf hlv hfp hP p1 => ?_) hs
  have hnh : ∀ b ∈ wr, b ∉ C.hid B M := fun b hb => hE.fresh (hwf b hb)
  have hwn : ∀ b ∈ wr, b ≠ C.env.locals ∧ ∀ p ∈ C.env.cells, b ≠ p.2 := fun b hb =>
    ⟨fun q => hnh b hb (List.mem_append_right _ (q ▸ List.mem_cons_self)), fun p hp q => hnh b hb (List.mem_append_right _ (List.mem_cons_of_mem _ (List.mem_append_left _ (q ▸ List.mem_map.mpr ⟨p, hp, rfl⟩))))⟩
  have hXw : ∀ a ∈ B.X, a ∉ wr := fun a ha hb => hnh a hb (List.mem_append_right _ (List.mem_cons_of_mem _ (List.mem_append_right _ ha)))
  have hbase : ∀ b ∈ wr, (hideAll h1 (C.own M ++ wr)).get? b = none := fun b hb => hideAll_none _ (List.mem_append_right _ hb)
  have E1 := hE.rebaseW k1 hwf (hlv 0 h1 st0)
  have kback : Keep B.h₀ (hideAll h1 (C.own M ++ wr)) := (hE.kept k1).strip_keep wr fun b hb => Bs.none_of hE.keep (hwf b hb)
  have seen : LookLe (vis h1 (wr ++ C.hid B M)) (vis (hideAll h1 (C.own M ++ wr)) (C.hb ⟨hideAll h1 (C.own M ++ wr), wr ++ B.X⟩)) := seen_hide
  refine codeAny_forLoop_any (fun n s' => ∃ done rest V' M' h' t', items = done ++ rest ∧ n = rest.length ∧ s' = { s with heap := h', toks := t' } ∧ I done V' M' ∧
    Est C ⟨hideAll h1 (C.own M ++ wr), wr ++ B.X⟩ V' M' h' ∧ 0 < t' ∧ St done.length h') ?_ items.length ⟨[], items, V, M, h1, t1, rfl, rfl, rfl, h0, E1, p1, st0⟩
  rintro n s' ⟨done, rest, V', M', h', t', hit, rfl, rfl, hI, e1, pt, st⟩
  cases rest with
  | nil =>
    rw [List.append_nil] at hit; subst hit
    refine wpAny_tk (s := { s with heap := h', toks := t' }) pt (W.done _ _ _ st fun h'' t'' kb pt2 => ?_)
    refine wpAny_execs_nil ?_
    have e2 := (e1.stepX kb hbase hwn hXw).weaken kback hE.g
    exact k .next .next V' M' h'' t'' e2 rfl (fin V' M' hI)
  | cons pq rest =>
    obtain ⟨p, q⟩ := pq
    refine wpAny_tk (s := { s with heap := h', toks := t' }) pt (W.item done.length _ _ _ (by rw [hit]; simp) st fun T vals h'' t'' hp hT hMid kb pt2 => ?_)
    obtain ⟨v0, v1, rfl, hr0, hr1⟩ := hP done.length p q vals (by rw [hit]; simp) hp
    refine wpAny_tk (s := { s with heap := h'', toks := t'' }) pt2 (W.go _ kx tp done.length T { s with heap := h'', toks := t'' } _ _ hMid fun h2 st' kb2 pt3 => ?_)
    have hT2 : h2.IsTuple T #[v0, v1] := by
      obtain ⟨o, z1, z2⟩ := hT
      exact ⟨o, kb2 _ _ (W.apart _ _ _ hMid) z1, z2⟩
    have e2 := e1.stepX' (h' := h2) (fun b o n e => kb2 b o n (kb b o n e)) hbase hwn hXw (hlv _ _ st')
    have e3 := e2.rebase
    refine wp_pair ok (s := { s with heap := h2, toks := t'' }) (.inl hx) (.inl hy) e3 pt3 hT2 (hr0.get (seen.trans e2.base_rebase)) (hr1.get (seen.trans e2.base_rebase)) fun h3 t3 e4 pt3 => ?_
    refine (turn done p q rest V' M' hit hI).then ok (s := { s with heap := h3, toks := t3 }) e4 pt3 fun fl f V'' M'' h4 t4 e5 pt4 rf hK => ?_
    have e6 : Est C ⟨hideAll h1 (C.own M ++ wr), wr ++ B.X⟩ V'' M'' h4 := e2.back e5
    have st4 : St (done ++ [(p, q)]).length h4 := by
      rw [List.length_append]
      refine W.frame _ h2 h4 st' fun b hb o e => e5.keep b o (hideAll_get _ e fun hm => ?_)
      have hnb : b ≠ C.env.locals ∧ (∀ p ∈ C.env.cells, b ≠ p.2) ∧ ∀ q ∈ M', q.1 ≠ b := by
        rcases hfp b hb with hbw | ⟨o', q'⟩
        · refine ⟨(hwn b hbw).1, (hwn b hbw).2, fun q hq z => (e2.own q hq).2.2 (z ▸ ?_)⟩
          exact List.mem_cons_of_mem _ (List.mem_append_right _ (List.mem_append_left _ hbw))
        · obtain ⟨z1, z2⟩ := vis_get (seen _ _ q')
          refine ⟨fun z => z2 (z ▸ List.mem_cons_self), fun p hp z => z2 (List.mem_cons_of_mem _ (List.mem_append_left _ (z ▸ List.mem_map.mpr ⟨p, hp, rfl⟩))), fun q hq z => ?_⟩
          have := (e2.own q hq).2.1
          rw [z] at this
          have z1' : (hideAll h1 (C.own M ++ wr)).get? b = some o' := z1
          rw [z1'] at this; cases this
      rcases List.mem_append.mp hm with q | q
      · obtain ⟨p, hp, z⟩ := List.mem_map.mp q
        exact hnb.2.2 p hp z
      · rcases List.mem_cons.mp q with q | q
        · exact hnb.1 q
        · split at q
          · obtain ⟨p, hp, z⟩ := List.mem_map.mp q
            exact hnb.2.1 p hp z.symm
          · cases q
    have hit' : items = (done ++ [(p, q)]) ++ rest := by rw [hit]; simp
    cases fl with
    | next => cases rf; exact ⟨_, Nat.lt_succ_self _, done ++ [(p, q)], rest, V'', M'', h4, t4, hit', rfl, rfl, hK, e6, pt4, st4⟩
    | cont => cases rf; exact ⟨_, Nat.lt_succ_self _, done ++ [(p, q)], rest, V'', M'', h4, t4, hit', rfl, rfl, hK, e6, pt4, st4⟩
    | brk => cases rf; exact k .next .next V'' M'' h4 t4 ((e6.seeX fun a ha => List.mem_append_right _ ha).weaken kback hE.g) rfl hK
    | ret q =>
      obtain ⟨v', rfl, r'⟩ := rf
      exact k (.ret q) (.ret v') V'' M'' h4 t4 ((e6.seeX fun a ha => List.mem_append_right _ ha).weaken kback hE.g)
        ⟨v', rfl, r'.get (vis_sub (Cx.hb_mono fun a ha => List.mem_append_right _ ha))⟩ hK

/-- `x, y = e` -/
theorem EX1.assignPair {x y : Str} {px py tp pos : Pos} {kx : Nat} {e : Expr} {p q : PV} (hx : C.St x) (hy : C.St y) (hv : EV C V M e (.tup [p, q])) (hsw : swapsWithSole [Expr.Tuple [.Name x px, .Name y py] kx tp] e pos.line C.env = pure false)
    (hsw2 : swappedStores [Expr.Tuple [.Name x px, .Name y py] kx tp] e C.env = pure none) (h : K .next ((y, q) :: (x, p) :: V) M) : EX1 C V M (.Assign [.Tuple [.Name x px, .Name y py] kx tp] e pos) K := fun ok B s Q E hE tk k => by
  refine PyProof.Rows.Assign_Tuple (hv.then ok hE tk fun v h1 t1 k1 e1 p1 r1 => ?_) hsw hsw2
  obtain ⟨a, vs, n, rfl, ea, v0, r, rfl, hr0, v1, r', rfl, hr1, hr2⟩ := r1
  cases hr2
  have hl : LookLe (C.look B M h1) (vis (hideAll h1 (C.own M)) (C.hb ⟨hideAll h1 (C.own M), B.X⟩)) := fun b o e => by
    obtain ⟨z1, z2⟩ := vis_get e
    refine vis_of (hideAll_get _ z1 fun hm => z2 ?_) fun hm => z2 (List.mem_append_right _ hm)
    rcases List.mem_append.mp hm with q | q
    · exact List.mem_append_left _ q
    · rcases List.mem_cons.mp q with q | q
      · exact List.mem_append_right _ (q ▸ List.mem_cons_self)
      · split at q
        · exact List.mem_append_right _ (List.mem_cons_of_mem _ (List.mem_append_left _ q))
        · cases q
  refine wp_pair ok (s := { s with heap := h1, toks := t1 }) hx hy e1.rebase p1 ⟨_, (vis_get ea).1, rfl, n, rfl⟩ (hr0.get hl) (hr1.get hl) fun h2 t2 e2 p2 => ?_
  exact k .next .next _ _ h2 t2 (e1.back e2) rfl h
end
end Mine

/-! LayK -/
namespace Mine
open PySem PySem.W PySem.Calls PyProof.Rows
set_option Elab.async false
section
variable {C : Cx} {V : Vars} {M : Owns} {K : Cont}

def PartOf (C : Cx) (V : Vars) (M : Owns) (x : Option Expr) (i : Option Int) : Prop := match x with
  | none => i = none
  | some e => ∃ j, i = some j ∧ EV C V M e (.int j)
theorem PartOf.nil : PartOf C V M none none := rfl
theorem PartOf.one {e : Expr} {j : Int} (h : EV C V M e (.int j)) : PartOf C V M (some e) (some j) := ⟨j, rfl, h⟩
theorem PartOf.run {x : Option Expr} {i : Option Int} (hx : PartOf C V M x i) (ok : C.Ok) {B : Bs} {s : Shared} {Q : Value → Shared → Prop} {E : Value → Shared → Prop} (hE : Est C B V M s.heap) (tk : 0 < s.toks)
    (k : ∀ l h' t', Keep s.heap h' → Est C B V M h' → 0 < t' → l.map (·.1) = i → Q (partValue l) { s with heap := h', toks := t' }) : wpAny (model C.prog C.w) C.A (evalPart x C.env) Q E s := by
  cases x with
  | none => cases hx; exact wpAny_pure (k none s.heap s.toks .rfl hE tk rfl)
  | some e =>
    obtain ⟨j, rfl, h⟩ := hx
    refine h.then ok hE tk fun v h' t' kp e1 p1 r => ?_
    obtain ⟨t, rfl⟩ := r
    exact k (some (j, t)) h' t' kp e1 p1 rfl
theorem isPart_partValue : ∀ (l : Option (Int × Tok)), IsPart (partValue l) (l.map (·.1))
  | none => .none
  | some (i, t) => .int i t

def pickL {α : Type} (l : List α) (lo hi st : Option Int) : List α :=
  (sliceRange (sliceBounds lo hi st l.length).1 (sliceBounds lo hi st l.length).2.1 (sliceBounds lo hi st l.length).2.2).filterMap (l[·]?)
theorem RepL.pick {P : Params} {L : Look} {l : List PV} {vs : List Value} (h : RepL P L l vs) : ∀ (is : List Nat), RepL P L (is.filterMap (l[·]?)) (is.filterMap (vs[·]?))
  | [] => rfl
  | i :: is => by
    have ih := RepL.pick h is
    cases e : l[i]? with
    | none =>
      have : vs[i]? = none := by rw [List.getElem?_eq_none_iff] at e ⊢; rw [h.len]; exact e
      rw [List.filterMap_cons_none e, List.filterMap_cons_none this]; exact ih
    | some p =>
      obtain ⟨v, ev, r⟩ := h.get e
      rw [List.filterMap_cons_some e, List.filterMap_cons_some ev]
      exact ⟨v, _, rfl, r, ih⟩
theorem SN.slice {value : Expr} {lower upper step : Option Expr} {p pos : Pos} {l : List PV} {lo hi st : Option Int} (hv : EV C V M value (.list l)) (h1 : PartOf C V M lower lo) (h2 : PartOf C V M upper hi) (h3 : PartOf C V M step st) (h0 : st ≠ some 0) (hsz : l.length ≤ sizeLine) :
    SN C V M (eval (.Subscript value (.Slice lower upper step p) pos) C.env) (pickL l lo hi st) := fun ok B s Q E hE tk k => by
  refine PyProof.Rows.Subscript_ (hv.then ok hE tk fun a g1 t1 k1 e1 p1 r1 => wpAny_Slice ?_)
  refine h1.run ok (s := { s with heap := g1, toks := t1 }) e1 p1 fun l1 g2 t2 k2 e2 p2 q1 => ?_
  refine h2.run ok (s := { s with heap := g2, toks := t2 }) e2 p2 fun l2 g3 t3 k3 e3 p3 q2 => ?_
  refine h3.run ok (s := { s with heap := g3, toks := t3 }) e3 p3 fun l3 g4 t4 k4 e4 p4 q3 => ?_
  obtain ⟨a, vs, n, rfl, q, r⟩ := r1
  have k14 : Keep g1 g4 := k2.trans (k3.trans k4)
  have r4 := RepL.mono (vis_keep (X := C.hid B M) k14) _ r
  have hl : (g4.push { cls := .type "slice", data := .fields #[partValue l1, partValue l2, partValue l3] }).IsList a vs.toArray := ⟨_, Heap.get?_push_of_some _ (k14 _ _ (vis_get q).1), rfl, n, rfl⟩
  have hlen := r.len
  have hfr : s.heap.get? (g4.push { cls := .type "slice", data := .fields #[partValue l1, partValue l2, partValue l3] }).objs.size = none := by
    cases z : s.heap.get? (g4.push { cls := .type "slice", data := .fields #[partValue l1, partValue l2, partValue l3] }).objs.size with
    | none => rfl
    | some o => have := (Keep.push (k1.trans k14) { cls := .type "slice", data := .fields #[partValue l1, partValue l2, partValue l3] }) _ _ z; rw [get_size] at this; cases this
  have fin : ∀ ops, subscripted (.Slice lower upper step p) false (.ref a) (.ref g4.objs.size) = operate ops (getItem (.ref a) (.ref g4.objs.size)) → wpAny (model C.prog C.w) C.A (subscriptTail value (.Slice lower upper step p) (.ref a) (.ref g4.objs.size)) Q E { s with heap := g4.push { cls := .type "slice", data := .fields #[partValue l1, partValue l2, partValue l3] }, toks := t4 } := fun ops ho => by
    refine tail_any (s := { s with heap := g4.push { cls := .type "slice", data := .fields #[partValue l1, partValue l2, partValue l3] }, toks := t4 }) hl.typeIs slot_list_getitem.lookup
      (wpAny_getItem_list_slice (s := { s with heap := g4.push { cls := .type "slice", data := .fields #[partValue l1, partValue l2, partValue l3] }, toks := t4 }) hl (Heap.IsSliceOf.new ..) (isPart_partValue l1) (isPart_partValue l2) (isPart_partValue l3) (by rw [q3]; exact h0) ?_ (by rw [List.size_toArray, hlen]; exact hsz)) ho
    have hvs : slicePick vs.toArray (l1.map (·.1)) (l2.map (·.1)) (l3.map (·.1)) = ((sliceRange (sliceBounds lo hi st l.length).1 (sliceBounds lo hi st l.length).2.1 (sliceBounds lo hi st l.length).2.2).filterMap (vs[·]?)).toArray := by
      rw [q1, q2, q3]; unfold slicePick; rw [List.size_toArray, hlen]; simp
    rw [hvs]
    exact k _ _ 0 _ t4 hfr (Heap.get?_push_size _ rfl) (RepL.mono (vis_keep ((Keep.rfl.push _).push _)) _ (RepL.pick r4 _)) (((k1.trans k14).push _).push _)
  cases step with
  | none => exact fin _ rfl
  | some e => exact fin _ rfl
theorem EV.sliceL {value : Expr} {lower upper step : Option Expr} {p pos : Pos} {l : List PV} {lo hi st : Option Int} (hv : EV C V M value (.list l)) (h1 : PartOf C V M lower lo) (h2 : PartOf C V M upper hi) (h3 : PartOf C V M step st) (h0 : st ≠ some 0) (hsz : l.length ≤ sizeLine) :
    EV C V M (.Subscript value (.Slice lower upper step p) pos) (.list (pickL l lo hi st)) := (SN.slice hv h1 h2 h3 h0 hsz).sv
theorem EV.sliceS {value : Expr} {lower upper : Option Expr} {p pos : Pos} {x : Str} {lo hi : Option Int} (hv : EV C V M value (.str x)) (h1 : PartOf C V M lower lo) (h2 : PartOf C V M upper hi) (hsz : x.length ≤ sizeLine) :
    EV C V M (.Subscript value (.Slice lower upper none p) pos) (.str (Txt.slice x lo hi)) := fun ok B s Q E hE tk k => by
  refine PyProof.Rows.Subscript_ (hv.then ok hE tk fun a g1 t1 k1 e1 p1 r1 => wpAny_Slice ?_)
  refine h1.run ok (s := { s with heap := g1, toks := t1 }) e1 p1 fun l1 g2 t2 k2 e2 p2 q1 => ?_
  refine h2.run ok (s := { s with heap := g2, toks := t2 }) e2 p2 fun l2 g3 t3 k3 e3 p3 q2 => ?_
  refine wpAny_pure ?_
  obtain ⟨t, rfl⟩ := r1
  subst q1; subst q2
  refine tail_any (typeIs_str _ _ _) F.slot_str_getitem.lookup (wpAny_getItem_str_slice (l := l1) (u := l2) (st := none) ⟨_, Heap.get?_push_size _ rfl, rfl, rfl⟩ rfl
    (post_val_or_str ⟨Nat.le_trans (Txt.slice_le x _ _) hsz, fun t' k' => k _ _ k' ((k1.trans (k2.trans k3)).push _) ⟨_, rfl⟩⟩)) rfl

theorem pushed_none {h h' : Heap} (k : Keep h h') : h.get? h'.objs.size = none := by
  cases q : h.get? h'.objs.size with
  | none => rfl
  | some o => have := k _ _ q; rw [get_size] at this; cases this
theorem replicate_flat {α : Type} (x : α) : ∀ (n : Nat) (acc : Array α), List.foldl (fun x1 x2 => x1 ++ x2) acc (List.replicate n #[x]) = acc ++ (List.replicate n x).toArray
  | 0, acc => by simp
  | n + 1, acc => by
    rw [List.replicate_succ, List.foldl_cons, replicate_flat x n]
    apply Array.ext'
    simp [List.replicate_succ]
theorem RepL.rep {P : Params} {L : Look} {p : PV} {v : Value} (h : Rep P L p v) : ∀ n, RepL P L (List.replicate n p) (List.replicate n v)
  | 0 => rfl
  | n + 1 => ⟨v, _, rfl, h, RepL.rep h n⟩
/-- `[x] * n` -/
theorem SN.mul {l r : Expr} {pos : Pos} {p : PV} {i : Int} (hl : EV C V M l (.list [p])) (hr : EV C V M r (.int i)) (h0 : 0 ≤ i) (hi : i ≤ 2 ^ 20) : SN C V M (eval (.BinOp l .Mult r pos) C.env) (List.replicate i.toNat p) := fun ok B s Q E hE tk k => by
  refine wpAny_BinOp (hl.then ok hE tk fun a h1 t1 k1 e1 p1 r1 => ?_)
  refine hr.then ok (s := { s with heap := h1, toks := t1 }) e1 p1 fun b h2 t2 k2 e2 p2 r2 => ?_
  obtain ⟨a, vs, n, rfl, q, v, vs', rfl, rv, rr⟩ := r1
  cases rr
  obtain ⟨u, rfl⟩ := r2
  have hq : h2.get? a = some (listObj [v] n) := k2 _ _ (vis_get q).1
  refine wpAny_binaryOp_repeat_ref (s := { s with heap := h2, toks := t2 }) (T := "list") (U := "int") (by decide) ⟨_, hq, rfl⟩ (fun s' => typeIs_int s' i u) noFill_list_mul F.fills_int_mul F.slot_int_rmul repeat_list F.slot_int_index.lookup
    (call_meets F.slot_int_rmul (typeIs_int _ i u) F.entry_int_rmul (F.args_int_rmul_2 _ _) (int___rmul___int_list i u a [v].toArray n)
      ⟨hq, rfl, ⟨_, hq, rfl⟩, call_meets F.slot_list_mul ⟨_, hq, rfl⟩ F.entry_list_mul (F.args_list_mul_2 _ _)
        (AutoListH.list___mul___list_int_3 a [v].toArray n i u (by simp [Builtin.List.listFitsIndex]; omega) (by simp; omega) (by simp [Builtin.List.listTooLong, sizeLine]; omega))
        ⟨hq, ?_⟩⟩)
  have e : List.foldl (fun x1 x2 => x1 ++ x2) #[] (List.replicate (if [v].toArray.isEmpty = true then 0 else i.toNat) [v].toArray) = (List.replicate i.toNat v).toArray := by
    rw [if_neg (by simp)]
    have := replicate_flat v i.toNat #[]
    simpa using this
  rw [e]
  exact k _ _ 0 _ t2 (pushed_none (k1.trans k2)) (Heap.get?_push_size _ rfl) (RepL.rep (rv.get (vis_keep (k2.push _))) _) ((k1.trans k2).push _)

theorem Bn.min2 {a b : Int} : Bn C V M "min" [.int a, .int b] (.int (if b < a then b else a)) := fun ok B vs s Q E hE tk r k => by
  obtain ⟨v, r', rfl, ⟨t, rfl⟩, v', r'', rfl, ⟨u, rfl⟩, h2⟩ := r; cases h2
  refine min_two_ints ok.hh fun h' tk' kp => k _ h' tk' kp ?_
  by_cases q : b < a
  · rw [if_pos q, if_pos q]; exact ⟨_, rfl⟩
  · rw [if_neg q, if_neg q]; exact ⟨_, rfl⟩
theorem RepL.ints {P : Params} {L : Look} : ∀ {ns : List Int} {vs : List Value}, RepL P L (ns.map .int) vs → ∃ xs : List (Int × Tok), vs.toArray = intItems xs.toArray ∧ xs.map (·.1) = ns
  | [], _, h => by cases h; exact ⟨[], by simp [intItems], rfl⟩
  | x :: xs, _, h => by
    obtain ⟨v, r, rfl, ⟨t, rfl⟩, h2⟩ := h
    obtain ⟨l, e, e2⟩ := RepL.ints h2
    refine ⟨(x, t) :: l, ?_, by rw [List.map_cons, e2]⟩
    have e' : r = (intItems l.toArray).toList := by rw [← e]
    rw [e']
    apply Array.ext'
    simp [intItems]
theorem preSum_list : ∀ (xs : List (Int × Tok)), preSum (numAt xs.toArray) xs.length = (xs.map (·.1)).sum := by
  intro xs
  have key : ∀ n, n ≤ xs.length → preSum (numAt xs.toArray) n = ((xs.map (·.1)).take n).sum := by
    intro n
    induction n with
    | zero => intro _; rfl
    | succ n ih =>
      intro hn
      have hlt : n < xs.length := hn
      show preSum (numAt xs.toArray) n + numAt xs.toArray n = _
      rw [ih (Nat.le_of_succ_le hn), List.take_add_one, List.sum_append]
      simp [numAt, hlt]
  rw [key _ (Nat.le_refl _), List.take_of_length_le (by simp)]
theorem Bn.sum {ns : List Int} : Bn C V M "sum" [.list (ns.map .int)] (.int ns.sum) := fun ok B vs s Q E hE tk r k => by
  obtain ⟨v, r', rfl, ⟨a, vs, n, rfl, q, r⟩, h2⟩ := r; cases h2
  obtain ⟨xs, e1, e2⟩ := RepL.ints r
  have hl : s.heap.IsList a (intItems xs.toArray) := e1 ▸ listObj_of (vis_get q).1
  refine sum_intListG ok.hh hl fun h' tk' t' kp => k _ h' tk' kp ⟨t', ?_⟩
  rw [← e2, ← preSum_list]
  simp
end
end Mine

/-! LayL -/
namespace Mine
open PySem PySem.W PySem.Calls PyProof.Rows
set_option Elab.async false
section
variable {C : Cx} {V : Vars} {M : Owns} {K : Cont}

def pairPV (x : PV × PV) : PV := .tup [x.1, x.2]
theorem RepL.pair {P : Params} {L : Look} {items : List (PV × PV)} {vs : List Value} (h : RepL P L (items.map pairPV) vs) {i : Nat} {p q : PV} (hi : items[i]? = some (p, q)) :
    ∃ T v0 v1 n, vs[i]? = some (.ref T) ∧ L T = some (tupObj [v0, v1] n) ∧ Rep P L p v0 ∧ Rep P L q v1 := by
  obtain ⟨v, e, r⟩ := h.get (i := i) (p := pairPV (p, q)) (by rw [List.getElem?_map, hi]; rfl)
  obtain ⟨T, ws, n, rfl, hT, v0, r0, rfl, h0, v1, r1, rfl, h1, h2⟩ := r
  cases h2
  exact ⟨T, v0, v1, n, e, hT, h0, h1⟩
theorem ItP.list {e : Expr} {items : List (PV × PV)} (h : EV C V M e (.list (items.map pairPV))) : ItP C V M e items := fun ok B s Q E hE tk k => by
  refine h.then ok hE tk fun v h1 t1 k1 e1 p1 r1 => ?_
  obtain ⟨a, vs, n, rfl, ha, hr⟩ := r1
  obtain ⟨ha1, ha2⟩ := vis_get ha
  refine wpAny_pyIter_list ⟨_, ha1, rfl, n, rfl⟩ ?_
  have e0 := get_size h1
  have hne : a ≠ h1.objs.size := fun q => by rw [q, e0] at ha1; cases ha1
  have kp : Keep h1 (h1.push { cls := .type "list_iterator", data := .fields #[.ref a, .int 0 0] }) := Keep.rfl.push _
  generalize hh2 : h1.push { cls := .type "list_iterator", data := .fields #[.ref a, .int 0 0] } = h2 at *
  have hlen : vs.toArray.size = items.length := by rw [List.size_toArray, hr.len, List.length_map]
  let Ts : Nat → Addr := fun j => match vs[j]? with | some (.ref T) => T | _ => 0
  let vals : Nat → Array Value := fun j => match h1.get? (Ts j) with | some o => (match o.data with | .seq it _ => it | _ => #[]) | none => #[]
  have hpair : ∀ j p q, items[j]? = some (p, q) → ∃ v0 v1 m, vs[j]? = some (.ref (Ts j)) ∧ vis h1 (C.hid B M) (Ts j) = some (tupObj [v0, v1] m) ∧ vals j = #[v0, v1] ∧ Rep C.w.params (C.look B M h1) p v0 ∧ Rep C.w.params (C.look B M h1) q v1 := fun j p q hj => by
    obtain ⟨T, v0, v1, m, g1, g2, g3, g4⟩ := hr.pair hj
    have hT : Ts j = T := by show (match vs[j]? with | some (.ref T) => T | _ => 0) = T; rw [g1]
    refine ⟨v0, v1, m, by rw [hT]; exact g1, by rw [hT]; exact g2, ?_, g3, g4⟩
    show (match h1.get? (Ts j) with | some o => (match o.data with | .seq it _ => it | _ => #[]) | none => #[]) = _
    rw [hT, (vis_get g2).1]
  have hpair' : ∀ j, j < items.length → ∃ v0 v1 m, vs[j]? = some (.ref (Ts j)) ∧ vis h1 (C.hid B M) (Ts j) = some (tupObj [v0, v1] m) ∧ vals j = #[v0, v1] := fun j hj => by
    obtain ⟨v0, v1, m, g1, g2, g3, _⟩ := hpair j (items[j]'hj).1 (items[j]'hj).2 (by rw [List.getElem?_eq_getElem hj])
    exact ⟨v0, v1, m, g1, g2, g3⟩
  have W := WalksU.listOfTuples (prog := C.prog) (w := C.w) (A := C.A) ok.hh h1.objs.size a hne vs.toArray Ts vals
    (fun j hj => by obtain ⟨v0, v1, m, g1, _⟩ := hpair' j (hlen ▸ hj); simpa using g1)
    (fun j hj z => by obtain ⟨v0, v1, m, _, g2, _⟩ := hpair' j (hlen ▸ hj); have := (vis_get g2).1; rw [z, e0] at this; cases this)
  rw [hlen] at W
  have hI : h2.get? h1.objs.size = some { cls := .type "list_iterator", data := .fields #[.ref a, .int 0 0] } := hh2 ▸ Heap.get?_push_size _ rfl
  have hl2 : LookLe (vis h1 (C.hid B M)) (vis h2 ([h1.objs.size] ++ C.hid B M)) := fun b o q => by
    obtain ⟨q1, q2⟩ := vis_get q
    exact vis_two (vis_of (kp _ _ q1) q2) fun z => by
      rw [List.mem_singleton.mp z, e0] at q1; cases q1
  refine k h1.objs.size _ [h1.objs.size] _ _ _ h2 t1 (k1.trans kp) W ⟨⟨_, hI, rfl, rfl⟩, ⟨_, kp _ _ ha1, rfl, n, rfl⟩, fun j hj => ?_⟩ ?_ ?_ ?_ ?_ p1
  · obtain ⟨v0, v1, m, _, g2, g3⟩ := hpair' j (hlen ▸ hj)
    rw [g3]
    exact ⟨_, kp _ _ (vis_get g2).1, rfl, m, rfl⟩
  · intro b hb; rw [List.mem_singleton.mp hb]
    cases q : s.heap.get? h1.objs.size with
    | none => rfl
    | some o => rw [k1 _ _ q] at e0; cases e0
  · rintro i h ⟨⟨o, ho, _⟩, _⟩ b hb; rw [List.mem_singleton.mp hb]; exact ⟨o, ho⟩
  · intro b hb
    rcases List.mem_cons.mp hb with q | q
    · exact .inl (by rw [q]; exact List.mem_singleton.mpr rfl)
    · rcases List.mem_cons.mp q with q | q
      · rw [q]; exact .inr ⟨_, hl2 _ _ ha⟩
      · obtain ⟨j, hj, rfl⟩ := List.mem_map.mp q
        obtain ⟨v0, v1, m, _, g2, _⟩ := hpair' j (List.mem_range.mp hj)
        exact .inr ⟨_, hl2 _ _ g2⟩
  · intro i p q vals' hp hv
    obtain ⟨v0, v1, m, _, _, g3, g4, g5⟩ := hpair i p q hp
    exact ⟨v0, v1, hv.trans g3, g4.get hl2, g5.get hl2⟩

theorem ItP.zip {np zp : Pos} {e1 e2 : Expr} {ps qs : List PV} (hf : EV C V M (.Name (Str.ofString "zip") np) (.val (.type "zip"))) (ha : EV C V M e1 (.list ps)) (hb : EV C V M e2 (.list qs)) (hs : starEach [e1, e2] C.env = [(false, eval e1 C.env), (false, eval e2 C.env)]) :
    ItP C V M (.Call (.Name (Str.ofString "zip") np) [e1, e2] [] zp) (ps.zip qs) := fun ok B s Q E hE tk k => by
  refine wpAny_Call_NameR (hf.then ok hE tk fun v h1 t1 k1 e1 p1 r1 => ?_)
  cases r1
  rw [hs]
  refine PySem.callWith_type rfl (Calls.evalArgs_plain (Calls.spliced_cons (ha.then ok (s := { s with heap := h1, toks := t1 }) e1 p1 fun v h2 t2 k2 e2 p2 r2 => ?_)))
  refine Calls.spliced_cons (hb.then ok (s := { s with heap := h2, toks := t2 }) e2 p2 fun v' h3 t3 k3 e3 p3 r3 => Calls.spliced_nil ?_)
  obtain ⟨a, vs, n, rfl, qa, ra⟩ := r2
  obtain ⟨b, ws, m, rfl, qb, rb⟩ := r3
  have qa3 := vis_keep k3 _ _ qa
  have ra3 := RepL.mono (vis_keep (X := C.hid B M) k3) _ ra
  have hla : h3.IsList a vs.toArray := listObj_of (vis_get qa3).1
  have hlb : h3.IsList b ws.toArray := listObj_of (vis_get qb).1
  refine call_zip_2 (s := { s with heap := h3, toks := t3 }) hla hlb fun h' hz hTI hTO hi1 hi2 hsz hk => ?_
  refine wpAny_pyIter_zip hz ?_
  have lt1 := Heap.lt_size (vis_get qa3).1
  have lt2 := Heap.lt_size (vis_get qb).1
  have W := (WalksT.zip2 (prog := C.prog) (w := C.w) (A := C.A) ok.hh _ _ _ _ _ a b (zipApart_new lt1 lt2) vs.toArray ws.toArray).toU
  have hlen : min vs.toArray.size ws.toArray.size = (ps.zip qs).length := by rw [List.size_toArray, List.size_toArray, ra.len, rb.len, List.length_zip]
  rw [hlen] at W
  have hnew : ∀ c ∈ [h3.objs.size + 4, h3.objs.size + 3, h3.objs.size, h3.objs.size + 1], h3.get? c = none := fun c hc => by
    cases q : h3.get? c with
    | none => rfl
    | some o =>
      have := Heap.lt_size q
      simp only [List.mem_cons, List.not_mem_nil, or_false] at hc
      rcases hc with rfl | rfl | rfl | rfl
      · exact absurd this (Nat.not_lt.mpr (Nat.le_add_right _ _))
      · exact absurd this (Nat.not_lt.mpr (Nat.le_add_right _ _))
      · exact absurd this (Nat.lt_irrefl _)
      · exact absurd this (Nat.not_lt.mpr (Nat.le_add_right _ _))
  have kp : Keep h3 h' := fun b o e => hk b o e
  have ks : Keep s.heap h3 := k1.trans (k2.trans k3)
  have hl2 : LookLe (vis h3 (C.hid B M)) (vis h' ([h3.objs.size + 4, h3.objs.size + 3, h3.objs.size, h3.objs.size + 1] ++ C.hid B M)) := fun b o q => by
    obtain ⟨q1, q2⟩ := vis_get q
    exact vis_two (vis_of (kp _ _ q1) q2) fun z => by rw [hnew b z] at q1; cases q1
  refine k _ _ _ _ _ _ h' t3 (ks.trans kp) W ⟨hz, hTI, ⟨_, _, hTO⟩, hi1, hi2, ?_, ?_⟩ ?_ ?_ ?_ ?_ p3
  · obtain ⟨o, z1, z2⟩ := hla; exact ⟨o, kp _ _ z1, z2⟩
  · obtain ⟨o, z1, z2⟩ := hlb; exact ⟨o, kp _ _ z1, z2⟩
  · intro c hc
    cases q : s.heap.get? c with
    | none => rfl
    | some o => rw [← hnew c hc, ks _ _ q]
  · rintro i h ⟨hz, _, ⟨x, y, hTO⟩, ⟨o1, h1, _⟩, ⟨o2, h2, _⟩, _⟩ c hc
    simp at hc
    rcases hc with rfl | rfl | rfl | rfl
    · exact ⟨_, hz⟩
    · exact ⟨_, hTO⟩
    · exact ⟨_, h1⟩
    · exact ⟨_, h2⟩
  · intro c hc
    simp only [List.mem_cons, List.not_mem_nil, or_false] at hc
    rcases hc with rfl | rfl | rfl | rfl | rfl | rfl | rfl
    · exact .inl (by simp)
    · refine .inr ⟨_, vis_two (vis_of hTI fun z => ?_) (by simp)⟩
      have : h3.get? (h3.objs.size + 2) = none := by
        cases q : h3.get? (h3.objs.size + 2) with
        | none => rfl
        | some o => exact absurd (Heap.lt_size q) (Nat.not_lt.mpr (Nat.le_add_right _ _))
      exact e3.fresh this z
    · exact .inl (by simp)
    · exact .inl (by simp)
    · exact .inl (by simp)
    · exact .inr ⟨_, hl2 _ _ qa3⟩
    · exact .inr ⟨_, hl2 _ _ qb⟩
  · rintro i p q vals hp ⟨x, y, hx, hy, rfl⟩
    rw [List.getElem?_zip_eq_some] at hp
    obtain ⟨v0, g1, g2⟩ := ra3.get hp.1
    obtain ⟨v1, g3, g4⟩ := rb.get hp.2
    refine ⟨x, y, rfl, ?_, ?_⟩
    · have : v0 = x := by have hx' : vs[i]? = some x := by simpa using hx
                          rw [g1] at hx'; exact Option.some.inj hx'
      exact this ▸ g2.get hl2
    · have : v1 = y := by have hx' : ws[i]? = some y := by simpa using hy
                          rw [g3] at hx'; exact Option.some.inj hx'
      exact this ▸ g4.get hl2
end
end Mine

/-! LayM -/
namespace Mine
open PySem PySem.W PySem.Calls PyProof.Rows
set_option Elab.async false
section
variable {C : Cx} {V : Vars} {M : Owns} {K : Cont}

theorem Est.sub {B : Bs} {V' : Vars} {h : Heap} (x : Est C B V' M h) (hv : ∀ y pv, V.lookup y = some pv → V'.lookup y = some pv) : Est C B V M h where
  g := x.g
  keep := x.keep
  liveX := x.liveX
  newL := x.newL
  locC := x.locC
  cells := x.cells
  vars := by
    obtain ⟨m, cm, h1, h2, h3⟩ := x.vars
    exact ⟨m, cm, h1, h2, fun y pv e => h3 y pv (hv y pv e)⟩
  own := x.own
  apart := x.apart
theorem Est.rebaseH {B : Bs} {h : Heap} {wr : List Addr} (x : Est C B V M h) (hw : ∀ b ∈ wr, B.h₀.get? b = none) : Est C ⟨hideAll h (C.own M ++ wr), B.X⟩ V M h where
  g := x.g.kept (x.strip_keep wr hw)
  keep := fun b o e => of_hideAll _ e
  liveX := x.liveX
  newL := hideAll_none _ (List.mem_append_left _ (List.mem_append_right _ List.mem_cons_self))
  locC := x.locC
  cells := fun w => ⟨fun p hp => hideAll_none _ (List.mem_append_left _ (List.mem_append_right _ (List.mem_cons_of_mem _ (by rw [if_pos w]; exact List.mem_map.mpr ⟨p, hp, rfl⟩)))), (x.cells w).2⟩
  vars := x.vars
  own := fun p hp => ⟨(x.own p hp).1, hideAll_none _ (List.mem_append_left _ (List.mem_append_left _ (List.mem_map.mpr ⟨p, hp, rfl⟩))), (x.own p hp).2.2⟩
  apart := x.apart

/-- a deed that leaves the frame so -/
def AT (C : Cx) (V : Vars) (M : Owns) (t : Sem Unit) (V' : Vars) (M' : Owns) : Prop :=
  C.Ok → ∀ (B : Bs) (s : Shared) (Q : Unit → Shared → Prop) (E : Value → Shared → Prop), Est C B V M s.heap → 0 < s.toks →
    (∀ h' t', Est C B V' M' h' → 0 < t' → Q () { s with heap := h', toks := t' }) → wpAny (model C.prog C.w) C.A t Q E s

theorem AT.append {elt : Expr} {D : Addr} {ps : List PV} {p : PV} (h : EV C V [(D, .list ps)] elt p) (hl : ps.length ≤ sizeLine) :
    AT C V [(D, .list ps)] (do let _ ← call (.builtin "list.append") [.ref D, ← eval elt C.env]) V [(D, .list (ps ++ [p]))] := fun ok B s Q E hE tk k => by
  refine wpAny_bind (h.then ok hE tk fun y h2 t2 k2 e2 p2 r2 => wpAny_bind ?_)
  have hin : (D, MO.list ps) ∈ [] ++ (D, MO.list ps) :: [] := List.mem_cons_self
  obtain ⟨⟨vs, n, q, r⟩, _, _⟩ := e2.own _ hin
  have q' : h2.get? D = some (listObj vs n) := q
  refine call_meets slot_list_append ⟨_, q', rfl⟩ F.entry_list_append (F.args_list_append_2 _ _) (AutoListH.list_append_list_val_0 D vs.toArray n y (by rw [List.size_toArray, r.len]; exact hl)) ⟨q', ?_⟩
  have hs7 : Heap.SameBut D h2 (h2.update D (Obj.mapSeq fun a => a.push y)) := Heap.SameBut.update ..
  obtain ⟨k', hD7⟩ : ∃ k', (h2.update D (Obj.mapSeq fun a => a.push y)).get? D = some (listObj (vs ++ [y]) k') :=
    ⟨_, (Heap.get?_update_self _ q' rfl).trans (by show some (Obj.mk _ _ (Data.seq (vs.toArray.push y) _) _) = some (Obj.mk _ _ (Data.seq (vs ++ [y]).toArray _) _); rw [List.push_toArray])⟩
  have hl7 : LookLe (C.look B ([] ++ (D, .list ps) :: []) h2) (C.look B ([] ++ (D, .list ps) :: []) (h2.update D (Obj.mapSeq fun a => a.push y))) := vis_but (fun c o n e => hs7.extBut c o n e) (List.mem_append_left _ (List.mem_map.mpr ⟨_, hin, rfl⟩))
  have e7 := Est.upd (M₁ := []) (M₂ := []) (m' := .list (ps ++ [p])) e2 hs7 ⟨_, k', hD7, RepL.snoc (RepL.mono hl7 _ r) (r2.get hl7)⟩
  exact wpAny_pure (k _ t2 e7 p2)

theorem comp_level {e : Expr} {depth : Nat} {x : Str} {px pos : Pos} {act : Sem Unit} {D I : Addr} {fp wr X : List Addr} {items : List PV} {P : Nat → Value → Prop} {St : Nat → Heap → Prop} {g₀ : Heap} {ps : List PV} {F : PV → List PV} {R : Result → Shared → Prop} {s : Shared}
    (hct : ∀ it, compTurn e depth it (.ref D) C.env = (do
      standAt pos
      match ← pyNext it with
      | none => pure (.done .next)
      | some v =>
        letOwnedTupleGo (.Name x px) it v
        assign (.Name x px) C.env v
        act
        again (.compLoop e depth it (.ref D) C.env)))
    (hq : (Code.compLoop e depth (.ref I) (.ref D) C.env).quiet = true)
    (hu : C.A.under (.compLoop e depth (.ref I) (.ref D) C.env) = C.A)
    (hfr : (Code.compLoop e depth (.ref I) (.ref D) C.env).isFrame = false)
    (ok : C.Ok) (hx : C.env.kindOf x = some .local) (hVx : V.lookup x = none)
    (hE : Est C ⟨g₀, wr ++ X⟩ V [(D, .list ps)] s.heap) (tk : 0 < s.toks) (hbase : ∀ b ∈ wr, g₀.get? b = none) (hX : ∀ a ∈ X, a ∉ wr) (hwn : ∀ b ∈ wr, b ≠ C.env.locals ∧ ∀ p ∈ C.env.cells, b ≠ p.2)
    (W : Walks C.prog C.w C.A I fp wr items.length P St) (st0 : St 0 s.heap) (hlv : ∀ i h, St i h → ∀ b ∈ wr, ∃ o, h.get? b = some o)
    (hfp : ∀ b ∈ fp, b ∈ wr ∨ ∃ o, vis g₀ (C.hb ⟨g₀, wr ++ X⟩) b = some o)
    (hP : ∀ i p v, items[i]? = some p → P i v → Rep C.w.params (vis g₀ (C.hb ⟨g₀, wr ++ X⟩)) p v)
    (hturn : ∀ p ∈ items, ∀ qs : List PV, (∃ done, qs = ps ++ done.flatMap F ∧ ∃ rest, items = done ++ p :: rest) → AT C ((x, p) :: V) [(D, .list qs)] act ((x, p) :: V) [(D, .list (qs ++ F p))])
    (fin : ∀ h' t', Est C ⟨g₀, X⟩ V [(D, .list (ps ++ items.flatMap F))] h' → 0 < t' → R (.ok .next) { s with heap := h', toks := t' }) :
    codeAny (model C.prog C.w) C.A (.compLoop e depth (.ref I) (.ref D) C.env) R s := by
  refine codeAny_loop hq (fun n s' => ∃ done rest h' t', items = done ++ rest ∧ n = rest.length ∧ s' = { s with heap := h', toks := t' } ∧ Est C ⟨g₀, wr ++ X⟩ V [(D, .list (ps ++ done.flatMap F))] h' ∧ 0 < t' ∧ St done.length h')
    ?_ items.length ⟨[], items, s.heap, s.toks, rfl, rfl, rfl, by simpa using hE, tk, st0⟩
  rintro n s' ⟨done, rest, h', t', hit, rfl, rfl, e1, pt, st⟩
  rw [hu]
  have hden : (model C.prog C.w).den (.compLoop e depth (.ref I) (.ref D) C.env) = (compTurn e depth (.ref I) (.ref D) C.env).onRaise (fun x => do noteFrame x C.env; theTreesLotGoes x) := by
    show (if (Code.compLoop e depth (.ref I) (.ref D) C.env).isFrame = true then _ else _) = _
    rw [hfr]; rfl
  rw [hden]
  refine wpAny_noted ?_
  rw [hct]
  refine wpAny_bind (wpAny_standAt (wpAny_bind ?_))
  cases rest with
  | nil =>
    rw [List.append_nil] at hit; subst hit
    refine wpAny_tk (s := { s with heap := h', toks := t' }) pt (W.done _ _ _ st fun h'' t'' kb pt2 => ?_)
    exact wpAny_pure (fin h'' t'' (e1.stepX kb hbase hwn hX) pt2)
  | cons p rest =>
    refine wpAny_tk (s := { s with heap := h', toks := t' }) pt (W.item done.length _ _ _ (by rw [hit]; simp) st fun v h'' t'' hp st' kb pt2 => ?_)
    have e2 := e1.stepX' kb hbase hwn hX (hlv _ _ st')
    refine wpAny_bind (wpAny_of_eq (show letOwnedTupleGo (.Name x px) (.ref I) v = pure () from rfl) ?_)
    have e3 := e2.rebase
    refine wpAny_bind (wpAny_assign_Name (wpAny_tk (s := { s with heap := h'', toks := t'' }) pt2 (wp_store ok (s := { s with heap := h'', toks := t'' }) (.inl hx) e3 (((hP done.length p v (by rw [hit]; simp) hp).get e2.base_look)) fun h3 t3 e4 pt3 => ?_)))
    refine wpAny_bind (hturn p (by rw [hit]; simp) _ ⟨done, rfl, rest, hit⟩ ok _ { s with heap := h3, toks := t3 } _ _ e4 pt3 fun h4 t4 e5 pt4 => ?_)
    have e6 : Est C ⟨g₀, wr ++ X⟩ ((x, p) :: V) [(D, .list (ps ++ done.flatMap F ++ F p))] h4 := e2.back e5
    have st4 : St (done ++ [p]).length h4 := by
      rw [List.length_append]
      refine W.frame _ h'' h4 st' fun b hb o e => e5.keep b o (hideAll_get _ e fun hm => ?_)
      have hnb : b ≠ C.env.locals ∧ (∀ p ∈ C.env.cells, b ≠ p.2) ∧ ∀ q ∈ [(D, MO.list (ps ++ done.flatMap F))], q.1 ≠ b := by
        rcases hfp b hb with hbw | ⟨o', q'⟩
        · refine ⟨(hwn b hbw).1, (hwn b hbw).2, fun q hq z => (e2.own q hq).2.2 (z ▸ ?_)⟩
          exact List.mem_cons_of_mem _ (List.mem_append_right _ (List.mem_append_left _ hbw))
        · obtain ⟨z1, z2⟩ := vis_get q'
          refine ⟨fun z => z2 (z ▸ List.mem_cons_self), fun p hp z => z2 (List.mem_cons_of_mem _ (List.mem_append_left _ (z ▸ List.mem_map.mpr ⟨p, hp, rfl⟩))), fun q hq z => ?_⟩
          have := (e2.own q hq).2.1
          rw [z] at this
          have z1' : g₀.get? b = some o' := z1
          rw [z1'] at this; cases this
      rcases List.mem_append.mp hm with q | q
      · obtain ⟨p, hp, z⟩ := List.mem_map.mp q
        exact hnb.2.2 p hp z
      · rcases List.mem_cons.mp q with q | q
        · exact hnb.1 q
        · split at q
          · obtain ⟨p, hp, z⟩ := List.mem_map.mp q
            exact hnb.2.1 p hp z.symm
          · cases q
    have hit' : items = (done ++ [p]) ++ rest := by rw [hit]; simp
    have e7 : Est C ⟨g₀, wr ++ X⟩ V [(D, .list (ps ++ (done ++ [p]).flatMap F))] h4 := by
      have e8 := e6.sub (V := V) fun y pv ey => by
        rw [lookup_cons_of]
        by_cases q : y = x
        · subst q; rw [hVx] at ey; cases ey
        · rw [if_neg q]; exact ey
      rwa [List.flatMap_append, List.flatMap_cons, List.flatMap_nil, List.append_nil, ← List.append_assoc]
    exact wpAny_pure ⟨rfl, rest.length, Nat.lt_succ_self _, done ++ [p], rest, h4, t4, hit', rfl, rfl, e7, pt4, st4⟩
end
end Mine

/-! LayN -/
namespace Mine
open PySem PySem.W PySem.Calls PyProof.Rows
set_option Elab.async false
section
variable {C : Cx} {V : Vars} {M : Owns} {K : Cont}

theorem compStart_any {prog : Program} {w : World} {A : Around} {e : Expr} {depth : Nat} {it acc : Value} {env : Env} {g : Comprehension} {R : Result → Shared → Prop} {s : Shared} (hg : (clausesOf e)[depth]? = some g) (ha : (g.is_async != 0) = false)
    (hu : A.under (.compStart e depth it acc env) = A) (hfr : (Code.compStart e depth it acc env).isFrame = false) (hq : ∀ it', (Code.compLoop e depth it' acc env).quiet = true)
    (h0 : codeAny (model prog w) A (.compLoop e depth it acc env) R s)
    (h : wpAny (model prog w) A (pyIter it) (fun it' s' => codeAny (model prog w) A (.compLoop e depth it' acc env) R s') (notedBy (model prog w) A env fun x s' => R (.error x) s') s) :
    codeAny (model prog w) A (.compStart e depth it acc env) R s := by
  refine codeAny_of_tree ?_
  rw [hu]
  have hden : (model prog w).den (.compStart e depth it acc env) = (compStart e depth it acc env).onRaise (fun x => do noteFrame x env; standAt theWindowsPlace) := by
    show (if (Code.compStart e depth it acc env).isFrame = true then _ else _) = _
    rw [hfr]; rfl
  rw [hden]
  refine wpAny_notedAt ?_
  unfold compStart
  rw [hg]
  simp only [Option.elim_some, ha, Bool.false_eq_true, if_false]
  refine wpAny_bind (wpAny_askSetting (wpAny_ite ?_))
  split
  · first
      | exact wpAny_bind (wpAny_pure (wpAny_pure (And.intro (hq _) h0)))
      | exact wpAny_pure (And.intro (hq _) h0)
  · refine wpAny_bind (wpAny_rule ?_)
    exact wpAny_bind (wpAny_standAt (wpAny_bind (wpAny_mono h (fun it' s' h' => wpAny_pure (And.intro (hq _) h')) fun _ _ x => x)))

theorem flat_one {α β : Type} (f : α → β) : ∀ (l : List α), (l.flatMap fun q => [f q]) = l.map f
  | [] => rfl
  | a :: l => by rw [List.flatMap_cons, flat_one f l]; rfl

theorem AT.inner {elt iter1 iter2 : Expr} {x y : Str} {px py pos : Pos} {scope : Scope} {D : Addr} {items : List PV} {f : PV → PV} {qs : List PV} (hy : C.env.kindOf y = some .local) (hVy : V.lookup y = none)
    (hi : It C V [(D, .list qs)] iter2 items) (hs : ∀ x, foldedSetIterable iter2 C.env x = pure x)
    (hbody : ∀ q ∈ items, ∀ qs' : List PV, EV C ((y, q) :: V) [(D, .list qs')] elt (f q)) (hsz : qs.length + items.length ≤ sizeLine) :
    AT C V [(D, .list qs)] (do
      let z ← eval iter2 C.env
      standAt iter2.pos
      let z ← foldedSetIterable iter2 C.env z
      let _ ← runOwn (.compStart (.ListComp elt [⟨.Name x px, iter1, [], 0⟩, ⟨.Name y py, iter2, [], 0⟩] scope pos) 1 (← holding [z] (pyIter z)) (.ref D) C.env) C.env)
      V [(D, .list (qs ++ items.map f))] := fun ok B s Q E hE tk k => by
  refine wpAny_bind (wpAny_mono (hi ok B s (fun it s₂ => codeAny (model C.prog C.w) C.A (.compStart (.ListComp elt [⟨.Name x px, iter1, [], 0⟩, ⟨.Name y py, iter2, [], 0⟩] scope pos) 1 it (.ref D) C.env)
      (fun r s' => match r with | .ok _ => Q () s' | .error e => cameBackBy (model C.prog C.w) C.A C.env E e s') s₂) E hE tk fun It fp wr P St h1 t1 k1 W st0 hwf hlv hfp hP p1 => ?_) (fun z s₁ hz => ?_) fun _ _ e => e)
  · have hnh : ∀ b ∈ wr, b ∉ C.hid B [(D, .list qs)] := fun b hb => hE.fresh (hwf b hb)
    have hwn : ∀ b ∈ wr, b ≠ C.env.locals ∧ ∀ p ∈ C.env.cells, b ≠ p.2 := fun b hb =>
      ⟨fun q => hnh b hb (List.mem_append_right _ (q ▸ List.mem_cons_self)), fun p hp q => hnh b hb (List.mem_append_right _ (List.mem_cons_of_mem _ (List.mem_append_left _ (q ▸ List.mem_map.mpr ⟨p, hp, rfl⟩))))⟩
    have hXw : ∀ a ∈ B.X, a ∉ wr := fun a ha hb => hnh a hb (List.mem_append_right _ (List.mem_cons_of_mem _ (List.mem_append_right _ ha)))
    have E1 := hE.rebaseW k1 hwf (hlv 0 h1 st0)
    have kback : Keep B.h₀ (hideAll h1 (C.own [(D, .list qs)] ++ wr)) := (hE.kept k1).strip_keep wr fun b hb => Bs.none_of hE.keep (hwf b hb)
    have seen : LookLe (vis h1 (wr ++ C.hid B [(D, .list qs)])) (vis (hideAll h1 (C.own [(D, .list qs)] ++ wr)) (C.hb ⟨hideAll h1 (C.own [(D, .list qs)] ++ wr), wr ++ B.X⟩)) := seen_hide
    have loop : codeAny (model C.prog C.w) C.A (.compLoop (.ListComp elt [⟨.Name x px, iter1, [], 0⟩, ⟨.Name y py, iter2, [], 0⟩] scope pos) 1 (.ref It) (.ref D) C.env) (fun r s' => match r with | .ok _ => Q () s' | .error e => cameBackBy (model C.prog C.w) C.A C.env E e s') { s with heap := h1, toks := t1 } := by
      refine comp_level (F := fun q => [f q]) (act := do let _ ← call (.builtin "list.append") [.ref D, ← eval elt C.env]) (fun it => rfl) rfl rfl rfl ok hy hVy E1 p1 (fun b hb => hideAll_none _ (List.mem_append_right _ hb)) hXw hwn W st0 hlv
        (fun b hb => (hfp b hb).imp id fun ⟨o, z⟩ => ⟨o, seen _ _ z⟩) (fun i p v hp hv => (hP i p v hp hv).get seen) (fun p hp qs' hq' => ?_) fun h' t' e' p' => ?_
      · obtain ⟨done, rfl, rest, hr⟩ := hq'
        refine AT.append (hbody p hp _) ?_
        have h1 := congrArg List.length hr
        rw [List.length_append, List.length_cons] at h1
        rw [flat_one, List.length_append, List.length_map]
        omega
      · rw [flat_one] at e'
        exact k h' t' (e'.weaken kback hE.g) p'
    exact compStart_any (g := ⟨.Name y py, iter2, [], 0⟩) rfl rfl rfl rfl (fun _ => rfl) loop (W.self 0 _ _ _ st0 loop)
  · refine wpAny_bind (wpAny_standAt (wpAny_bind (wpAny_of_eq (hs z) (wpAny_bind (wpAny_holding (wpAny_mono hz (fun it s₂ h₂ => ?_) fun _ _ e => e))))))
    exact wpAny_bind (wpAny_runOwn (h := none) (codeAny_mono h₂ fun r s' hr => by cases r with | ok f => exact wpAny_pure hr | error e => exact hr))

theorem Est.block0 {B : Bs} {h h3 : Heap} {scope : Scope} {x : Str} {Vc : Vars} {Ca D : Addr} {wr : List Addr} {m : Str → Option Value} (hE : Est C B V M h) (co : CompOk C V Vc scope x) (kp : Keep h h3)
    (hw0 : ∀ b ∈ wr, h.get? b = none) (hwl : ∀ b ∈ wr, ∃ o, h3.get? b = some o) (hCa : h.get? Ca = none) (hD : h.get? D = none) (hDw : D ∉ wr) (hDC : D ≠ Ca) (hDv : h3.get? D = some (listObj [] 0)) (hn : h3.Ns Ca m) :
    Est (compCx C scope Ca) ⟨B.h₀, wr ++ C.hid B M⟩ Vc [(D, .list [])] h3 := by
  have hcl : ∀ q ∈ clOf scope C.env, C.env.cells.lookup q.1 = some q.2 := clFrom_mem (fun _ z => nomatch z)
  have hclh : ∀ q ∈ clOf scope C.env, q.2 ∈ C.hid B M := fun q hq => List.mem_append_right _ (List.mem_cons_of_mem _ (List.mem_append_left _ (List.mem_map.mpr ⟨_, mem_of_lookup (hcl q hq), rfl⟩)))
  have livehid : ∀ a ∈ C.hid B M, ∃ o, h.get? a = some o := fun a z => by
    rcases List.mem_append.mp z with z | z
    · obtain ⟨q, hq, rfl⟩ := List.mem_map.mp z; exact (hE.own q hq).1.live
    · exact hE.liveX a z
  have hlook : LookLe (C.look B M h) ((compCx C scope Ca).look ⟨B.h₀, wr ++ C.hid B M⟩ [(D, .list [])] h3) := fun a o e => by
    obtain ⟨e1, n⟩ := vis_get e
    refine vis_of (kp a o e1) fun z => ?_
    rcases List.mem_cons.mp (show a ∈ D :: _ from z) with z | z
    · subst z; rw [hD] at e1; cases e1
    · rcases List.mem_cons.mp (show a ∈ Ca :: _ from z) with z | z
      · subst z; rw [hCa] at e1; cases e1
      · rcases List.mem_append.mp z with z | z
        · obtain ⟨q, hq, rfl⟩ := List.mem_map.mp z; exact n (hclh q hq)
        · rcases List.mem_append.mp z with z | z
          · rw [hw0 a z] at e1; cases e1
          · exact n z
  exact {
    g := hE.g
    keep := hE.keep.trans kp
    liveX := fun a ha => by
      rcases List.mem_cons.mp ha with z | z
      · obtain ⟨o, es, ep, e, _⟩ := hn; exact ⟨o, z ▸ e⟩
      · rcases List.mem_append.mp z with z | z
        · obtain ⟨q, hq, rfl⟩ := List.mem_map.mp z
          obtain ⟨o, e⟩ := livehid _ (hclh q hq); exact ⟨o, kp _ _ e⟩
        · rcases List.mem_append.mp z with z | z
          · exact hwl a z
          · obtain ⟨o, e⟩ := livehid a z; exact ⟨o, kp _ _ e⟩
    newL := Bs.none_of hE.keep hCa
    locC := fun q hq z => by
      obtain ⟨o, e⟩ := livehid _ (hclh q hq)
      rw [show q.2 = Ca from z, hCa] at e; cases e
    cells := fun w => nomatch w
    vars := by
      obtain ⟨mm, cm, g1, g2, g3⟩ := hE.vars
      refine ⟨m, cm, hn, fun n c e => (g2 n c (hcl _ (mem_of_lookup e))).keeps kp, fun y pv e => ?_⟩
      obtain ⟨z1, z2, z3, z4⟩ := co.caught y pv e
      obtain ⟨v', r', z⟩ := g3 y pv z1
      refine ⟨v', r'.get hlook, ?_⟩
      rcases z with ⟨z, _⟩ | ⟨_, _, z⟩
      · rw [z2] at z; cases z
      · exact .inr ⟨.inl z3, Option.isSome_iff_exists.mp z4, z⟩
    own := fun p hp => by
      rw [List.mem_singleton.mp hp]
      refine ⟨⟨[], 0, hDv, rfl⟩, Bs.none_of hE.keep hD, fun z => ?_⟩
      rcases List.mem_cons.mp z with z | z
      · exact hDC z
      · rcases List.mem_append.mp z with z | z
        · obtain ⟨q, hq, z⟩ := List.mem_map.mp z
          obtain ⟨o, e⟩ := livehid _ (hclh q hq)
          rw [show q.2 = D from z, hD] at e; cases e
        · rcases List.mem_append.mp z with z | z
          · exact hDw z
          · obtain ⟨o, e⟩ := livehid D z; rw [hD] at e; cases e
    apart := by simp }

theorem turn_outer (elt iter1 iter2 : Expr) (x y : Str) (px py pos : Pos) (scope : Scope) (it acc : Value) (env : Env) :
    compTurn (.ListComp elt [⟨.Name x px, iter1, [], 0⟩, ⟨.Name y py, iter2, [], 0⟩] scope pos) 0 it acc env = (do
      standAt iter1.pos
      match ← pyNext it with
      | none => pure (.done .next)
      | some v =>
        letOwnedTupleGo (.Name x px) it v
        assign (.Name x px) env v
        (do
          let z ← eval iter2 env
          standAt iter2.pos
          let z ← foldedSetIterable iter2 env z
          let _ ← runOwn (.compStart (.ListComp elt [⟨.Name x px, iter1, [], 0⟩, ⟨.Name y py, iter2, [], 0⟩] scope pos) 1 (← holding [z] (pyIter z)) acc env) env)
        again (.compLoop (.ListComp elt [⟨.Name x px, iter1, [], 0⟩, ⟨.Name y py, iter2, [], 0⟩] scope pos) 0 it acc env)) := by
  show (standAt iter1.pos >>= fun _ => pyNext it >>= _) = _
  congr 1; funext _
  congr 1; funext r
  cases r with
  | none => rfl
  | some v =>
    show (letOwnedTupleGo (.Name x px) it v >>= fun _ => _) = _
    congr 1; funext _
    show (assign (.Name x px) env v >>= fun _ => _) = _
    congr 1; funext _
    simp only [bind_assoc]
    rfl

/-- `[elt for x in iter1 for y in iter2]` -/
theorem comp2_run {elt iter1 iter2 : Expr} {x y : Str} {px py pos : Pos} {scope : Scope} {items : List PV} {g : PV → List PV} {f : PV → PV → PV} {Vc : Vars} {RR : Value → Addr → Result → Shared → Prop}
    (co : CompOk C V Vc scope x) (hy : scope.names.lookup y = some .local) (hxy : x ≠ y) (hVx : Vc.lookup x = none) (hVy : Vc.lookup y = none) (hi : It C V M iter1 items)
    (hi2 : ∀ Ca, ∀ p ∈ items, ∀ M', It (compCx C scope Ca) ((x, p) :: Vc) M' iter2 (g p)) (hs2 : ∀ env x, foldedSetIterable iter2 env x = pure x)
    (hbody : ∀ Ca, ∀ p ∈ items, ∀ q ∈ g p, ∀ M', EV (compCx C scope Ca) ((y, q) :: (x, p) :: Vc) M' elt (f p q)) (hsz : (items.flatMap fun p => (g p).map (f p)).length ≤ sizeLine)
    (ok : C.Ok) {B : Bs} {s : Shared} {E : Value → Shared → Prop} (hE : Est C B V M s.heap) (tk : 0 < s.toks)
    (fin : ∀ D Ca ys n m h' t', s.heap.get? D = none → s.heap.get? Ca = none → D ≠ Ca → Keep s.heap h' → h'.get? D = some (listObj ys n) → RepL C.w.params (vis h' (Ca :: C.hid B M)) (items.flatMap fun p => (g p).map (f p)) ys → h'.Ns Ca m →
      RR (.ref D) Ca (.ok .next) { s with heap := h', toks := t' }) :
    wpAny (model C.prog C.w) C.A (eval iter1 C.env) (fun xv s₁ => wpAny (model C.prog C.w) C.A (pyIter xv) (fun it s₂ => wpAny (model C.prog C.w) C.A (newList []) (fun acc s₃ => wpAny (model C.prog C.w) C.A (newFunctionEnv scope C.env.globals (clOf scope C.env) [] C.env.qual none .none (some C.env)) (fun cenv s₄ =>
      codeAny (model C.prog C.w) C.A (.compStart (.ListComp elt [⟨.Name x px, iter1, [], 0⟩, ⟨.Name y py, iter2, [], 0⟩] scope pos) 0 it acc { cenv with scope := relabel scope C.env }) (RR acc cenv.locals) s₄) E s₃) E s₂) E s₁) E s := by
  refine hi ok B s _ E hE tk fun I fp wr P St h1 t1 k1 W st0 hwf hlv hfp hP pt1 => ?_
  refine wpAny_newObj_type (wpAny_newFunctionEnv co.cell (by intro y hy; simp at hy) (fun h3 hns3 hsb3 => ?_) co.kind)
  have e0 := get_size h1
  have ePush : (h1.push (listObj [] 0)).objs.size = h1.objs.size + 1 := Heap.size_push ..
  have eC := get_size (h1.push (listObj [] 0))
  have kD : Keep h1 (h1.push (listObj [] 0)) := Keep.rfl.push _
  have k13 : Keep h1 h3 := fun b o e => hsb3.extBut b o (fun q => by
    rw [q] at e
    have e' := kD _ _ e
    rw [eC] at e'; cases e') (Heap.get?_push_of_some _ (kD b o e))
  generalize hCa : (h1.push (listObj [] 0)).objs.size = Ca at *
  have hDCa : h1.objs.size ≠ Ca := by omega
  have hDval : h3.get? h1.objs.size = some (listObj [] 0) := hsb3.extBut _ _ hDCa (Heap.get?_push_of_some _ (Heap.get?_push_size _ rfl))
  generalize hDD : h1.objs.size = D at *
  have hns3' : h3.Ns Ca (fun x => ([] : List (Str × Value)).reverse.lookup x) := hns3
  have hCa1 : h1.get? Ca = none := by
    cases q : h1.get? Ca with
    | none => rfl
    | some o => have := kD _ _ q; rw [eC] at this; cases this
  have ks3 : Keep s.heap h3 := k1.trans k13
  have snone : ∀ b, h1.get? b = none → s.heap.get? b = none := fun b e => by
    cases q : s.heap.get? b with
    | none => rfl
    | some o => rw [k1 _ _ q] at e; cases e
  have hwrD : ∀ b ∈ wr, b ≠ D ∧ b ≠ Ca := fun b hb => by
    obtain ⟨o, e⟩ := hlv 0 h1 st0 b hb
    exact ⟨fun q => (by rw [q, e0] at e; cases e), fun q => (by rw [q, hCa1] at e; cases e)⟩
  have st3 : St 0 h3 := W.frame 0 h1 h3 st0 fun b hb o e => k13 b o e
  have E0 : Est (compCx C scope Ca) ⟨B.h₀, wr ++ C.hid B M⟩ Vc [(D, .list [])] h3 := hE.block0 co ks3 hwf (hlv 0 h3 st3) (snone _ hCa1) (snone _ e0) (fun z => (hwrD D z).1 rfl) hDCa hDval hns3'
  have okc : (compCx C scope Ca).Ok := ⟨by show (relabel scope C.env).kind = _; simp [relabel, co.kind], ok.hh, ok.units, ok.depth, ok.gl, ok.bl⟩
  have hw0 : ∀ b ∈ wr, B.h₀.get? b = none := fun b hb => Bs.none_of hE.keep (hwf b hb)
  have E1 := E0.rebaseH (wr := wr) hw0
  have hcl0 : ∀ q ∈ clOf scope C.env, C.env.cells.lookup q.1 = some q.2 := clFrom_mem (fun _ z => nomatch z)
  have hcl : ∀ q ∈ clOf scope C.env, q.2 ∈ C.hid B M := fun q hq => List.mem_append_right _ (List.mem_cons_of_mem _ (List.mem_append_left _ (List.mem_map.mpr ⟨_, mem_of_lookup (hcl0 q hq), rfl⟩)))
  have seen : LookLe (vis h1 (wr ++ C.hid B M)) (vis (hideAll h3 ((compCx C scope Ca).own [(D, .list [])] ++ wr)) ((compCx C scope Ca).hb ⟨hideAll h3 ((compCx C scope Ca).own [(D, .list [])] ++ wr), wr ++ C.hid B M⟩)) := fun a o e => by
    obtain ⟨e1, n⟩ := vis_get e
    have nw : a ∉ wr := fun q => n (List.mem_append_left _ q)
    have nh : a ∉ C.hid B M := fun q => n (List.mem_append_right _ q)
    have nD : a ≠ D := fun q => by rw [q, e0] at e1; cases e1
    have nC : a ≠ Ca := fun q => by rw [q, hCa1] at e1; cases e1
    refine vis_of (hideAll_get _ (k13 _ _ e1) fun hm => ?_) fun hm => ?_
    · rcases List.mem_append.mp hm with q | q
      · rcases List.mem_cons.mp (show a ∈ D :: Ca :: [] from q) with q | q
        · exact nD q
        · exact nC (List.mem_singleton.mp q)
      · exact nw q
    · rcases List.mem_cons.mp (show a ∈ Ca :: _ from hm) with q | q
      · exact nC q
      · rcases List.mem_append.mp q with q | q
        · obtain ⟨z, hz, rfl⟩ := List.mem_map.mp q; exact nh (hcl z hz)
        · rcases List.mem_append.mp q with q | q
          · exact nw q
          · exact nh q
  have kback : Keep B.h₀ (hideAll h3 ((compCx C scope Ca).own [(D, .list [])] ++ wr)) := E0.strip_keep wr hw0
  have loop : ∀ s₄ : Shared, s₄ = { s with heap := h3, toks := t1 + ([] : List (Str × Value)).length } →
      codeAny (model C.prog C.w) C.A (.compLoop (.ListComp elt [⟨.Name x px, iter1, [], 0⟩, ⟨.Name y py, iter2, [], 0⟩] scope pos) 0 (.ref I) (.ref D) (compCx C scope Ca).env) (RR (.ref D) Ca) s₄ := by
    rintro s₄ rfl
    refine comp_level (C := compCx C scope Ca) (F := fun p => (g p).map (f p)) (ps := []) (act := do
      let z ← eval iter2 (compCx C scope Ca).env
      standAt iter2.pos
      let z ← foldedSetIterable iter2 (compCx C scope Ca).env z
      let _ ← runOwn (.compStart (.ListComp elt [⟨.Name x px, iter1, [], 0⟩, ⟨.Name y py, iter2, [], 0⟩] scope pos) 1 (← holding [z] (pyIter z)) (.ref D) (compCx C scope Ca).env) (compCx C scope Ca).env)
      (fun it => turn_outer ..) rfl rfl rfl okc (lookup_relabel_local co.x) hVx E1 (by simpa using pt1) (fun b hb => hideAll_none _ (List.mem_append_right _ hb)) (fun a ha hb => ?_) (fun b hb => ⟨(hwrD b hb).2, fun p hp q => ?_⟩) W st3 hlv
      (fun b hb => (hfp b hb).imp id fun ⟨o, z⟩ => ⟨o, seen _ _ z⟩) (fun i p v hp hv => (hP i p v hp hv).get seen) (fun p hp qs' hq' => ?_) fun h' t' e' p' => ?_
    · exact hE.fresh (hwf a hb) ha
    · exact hE.fresh (hwf b hb) (q ▸ hcl p hp)
    · obtain ⟨done, rfl, rest, hr⟩ := hq'
      refine AT.inner (C := compCx C scope Ca) (lookup_relabel_local hy) (by rw [lookup_cons_of, if_neg (Ne.symm hxy)]; exact hVy) (hi2 Ca p hp _) (hs2 _) (fun q hq qs' => hbody Ca p hp q hq _) ?_
      have h1 : (items.flatMap fun p => (g p).map (f p)).length ≤ sizeLine := hsz
      rw [hr, List.flatMap_append, List.flatMap_cons, List.length_append, List.length_append, List.length_map] at h1
      simp only [List.nil_append]
      omega
    · have hm : (D, MO.list ([] ++ items.flatMap fun p => (g p).map (f p))) ∈ [(D, MO.list ([] ++ items.flatMap fun p => (g p).map (f p)))] := List.mem_singleton.mpr rfl
      obtain ⟨⟨ys, n, q1, q2⟩, _, _⟩ := e'.own _ hm
      obtain ⟨mm, cm, g1, _⟩ := e'.vars
      refine fin D Ca ys n mm h' t' (snone _ e0) (snone _ hCa1) hDCa (fun b o e => e'.keep b o (hideAll_get _ (ks3 b o e) fun hm => ?_)) q1 (RepL.mono (vis_sub fun a ha => ?_) _ q2) g1
      · rcases List.mem_append.mp hm with q | q
        · rcases List.mem_cons.mp (show b ∈ D :: Ca :: [] from q) with q | q
          · rw [q, snone _ e0] at e; cases e
          · rw [List.mem_singleton.mp q, snone _ hCa1] at e; cases e
        · rw [hwf b q] at e; cases e
      · rcases List.mem_cons.mp ha with q | q
        · exact List.mem_append_right _ (q ▸ List.mem_cons_self)
        · exact List.mem_append_right _ (List.mem_cons_of_mem _ (List.mem_append_right _ q))
  exact compStart_any (g := ⟨.Name x px, iter1, [], 0⟩) rfl rfl rfl rfl (fun _ => rfl) (loop _ rfl) (W.self 0 _ _ _ st3 (loop _ rfl))

theorem SN.comp2 {elt iter1 iter2 : Expr} {x y : Str} {px py pos : Pos} {scope : Scope} {items : List PV} {g : PV → List PV} {f : PV → PV → PV} {Vc : Vars}
    (co : CompOk C V Vc scope x) (hy : scope.names.lookup y = some .local) (hxy : x ≠ y) (hVx : Vc.lookup x = none) (hVy : Vc.lookup y = none) (hi : It C V M iter1 items) (hs : ∀ x, foldedSetIterable iter1 C.env x = pure x)
    (hi2 : ∀ Ca, ∀ p ∈ items, ∀ M', It (compCx C scope Ca) ((x, p) :: Vc) M' iter2 (g p)) (hs2 : ∀ env x, foldedSetIterable iter2 env x = pure x)
    (hbody : ∀ Ca, ∀ p ∈ items, ∀ q ∈ g p, ∀ M', EV (compCx C scope Ca) ((y, q) :: (x, p) :: Vc) M' elt (f p q)) (hsz : (items.flatMap fun p => (g p).map (f p)).length ≤ sizeLine) :
    SN C V M (eval (.ListComp elt [⟨.Name x px, iter1, [], 0⟩, ⟨.Name y py, iter2, [], 0⟩] scope pos) C.env) (items.flatMap fun p => (g p).map (f p)) := fun ok B s Q E hE tk k => by
  rw [eval_ListComp]
  refine wpAny_comprehension_free (use := none) rfl hs (closureFor_cl co.free) co.kind co.names ?_
  refine comp2_run (RR := fun acc Ca => compPost (model C.prog C.w) C.A E none Q acc Ca) co hy hxy hVx hVy hi hi2 hs2 hbody hsz ok hE tk fun D Ca ys n m h' t' hD hCa hne kp hDv hr hns => ?_
  refine ⟨m, hns, fun h'' hs'' => ?_⟩
  refine k D ys n h'' t' hD (hs''.extBut _ _ hne hDv) (RepL.mono (fun a o e => ?_) _ hr) fun b o e => hs''.extBut _ _ (fun q => by rw [q, hCa] at e; cases e) (kp b o e)
  obtain ⟨e1, e2⟩ := vis_get e
  exact vis_of (hs''.extBut _ _ (fun q => e2 (q ▸ List.mem_cons_self)) e1) fun q => e2 (List.mem_cons_of_mem _ q)
theorem EX1.assignComp2 {elt iter1 iter2 : Expr} {x y z : Str} {px py pz : Pos} {scope : Scope} {pos spos : Pos} {items : List PV} {g : PV → List PV} {f : PV → PV → PV} {Vc : Vars} (hz : C.St z)
    (hsw : swapsWith (.ListComp elt [⟨.Name x px, iter1, [], 0⟩, ⟨.Name y py, iter2, [], 0⟩] scope pos) (some (.Name z pz)) spos.line C.env = pure true)
    (co : CompOk C V Vc scope x) (hy : scope.names.lookup y = some .local) (hxy : x ≠ y) (hVx : Vc.lookup x = none) (hVy : Vc.lookup y = none) (hi : It C V M iter1 items) (hs : ∀ x, foldedSetIterable iter1 C.env x = pure x)
    (hi2 : ∀ Ca, ∀ p ∈ items, ∀ M', It (compCx C scope Ca) ((x, p) :: Vc) M' iter2 (g p)) (hs2 : ∀ env x, foldedSetIterable iter2 env x = pure x)
    (hbody : ∀ Ca, ∀ p ∈ items, ∀ q ∈ g p, ∀ M', EV (compCx C scope Ca) ((y, q) :: (x, p) :: Vc) M' elt (f p q)) (hsz : (items.flatMap fun p => (g p).map (f p)).length ≤ sizeLine)
    (h : K .next ((z, .list (items.flatMap fun p => (g p).map (f p))) :: V) M) :
    EX1 C V M (.Assign [.Name z pz] (.ListComp elt [⟨.Name x px, iter1, [], 0⟩, ⟨.Name y py, iter2, [], 0⟩] scope pos) spos) K := fun ok B s Q E hE tk k => by
  rw [exec_Assign_Name_used _ _ _ _ hsw]
  refine wpAny_bind (wpAny_standAt (wpAny_bind ?_))
  show wpAny _ C.A (do let _ ← comprehension (.ListComp elt [⟨.Name x px, iter1, [], 0⟩, ⟨.Name y py, iter2, [], 0⟩] scope pos) scope C.env _ (PySem.newList []) false (eval iter1 C.env) (some (PySem.assign (.Name z pz) C.env))) _ _ s
  refine wpAny_bind (wpAny_mono (wpAny_comprehension_free (use := some (PySem.assign (.Name z pz) C.env)) (Q := fun _ s' => Q .next s') rfl hs (closureFor_cl co.free) co.kind co.names
    (comp2_run (RR := fun acc Ca => compPost (model C.prog C.w) C.A E (some (PySem.assign (.Name z pz) C.env)) (fun _ s' => Q .next s') acc Ca) co hy hxy hVx hVy hi hi2 hs2 hbody hsz ok hE tk fun D Ca ys n m h' t' hD hCa hne kp hDv hr hns => ?_)) (fun _ s' hq => wpAny_pure (wpAny_pure hq)) fun _ _ e => e)
  show wpAny _ C.A (PySem.assign (.Name z pz) C.env (.ref D)) _ _ _
  refine wpAny_assign_Name (wp_store_over ok hz hE kp hCa hns (l := .list (items.flatMap fun p => (g p).map (f p))) ⟨D, ys, n, rfl, vis_of hDv fun q => ?_, hr⟩ fun h2 t2 e2 => k .next .next _ _ h2 t2 e2 rfl h)
  rcases List.mem_cons.mp q with q | q
  · exact hne q
  · exact hE.fresh hD q
end
end Mine

/-! LayO -/
namespace Mine
open PySem PySem.W PySem.Calls PyProof.Rows
set_option Elab.async false
section
variable {C : Cx} {V : Vars} {M : Owns} {K : Cont}

abbrev keys (M : Owns) : List Addr := M.map (·.1)
/-- a def of the text answers r to ps, owned things M made to M' -/
def FnOkM (prog : Program) (w : World) (mg mb : Str → Option Value) (K : List (Addr × Obj)) (f : Addr) (ps : List PV) (kw : List (Str × Value)) (M : Owns) (r : PV) (M' : Owns) (d : Nat) : Prop :=
  ∀ (A : Around) (X : List Addr) (vs : List Value) (s : Shared) (R : Result → Shared → Prop), A.handled = none → A.units + 4 * d + 20 < cLine → A.depth + d + 5 < recursionLimit → Grd w.params mg mb K (hideAll s.heap (keys M)) → 0 < s.toks →
    (∀ a ∈ X, ∃ o, s.heap.get? a = some o) → (keys M).Nodup → (∀ p ∈ M, p.1 ∉ X) → (∀ p ∈ M, MRep w.params (vis s.heap (keys M ++ X)) s.heap p.1 p.2) → RepL w.params (vis s.heap (keys M ++ X)) ps vs →
    (∀ v h' t', Keep (hideAll s.heap (keys M)) h' → (∀ p ∈ M', MRep w.params (vis h' (keys M' ++ X)) h' p.1 p.2) → Rep w.params (vis h' X) r v → R (.ok (.ret v)) { s with heap := h', toks := t' }) →
    codeAny (model prog w) A (.call (.ref f) ⟨vs, kw⟩) R s
def BindsTo (prog : Program) (w : World) (mg mb : Str → Option Value) (K : List (Addr × Obj)) (fd : FuncData) (kw : List (Str × Value)) (ps : List PV) (names : List Str) (ps' : List PV) : Prop :=
  ∀ (A : Around) (E : Value → Shared → Prop) (X : List Addr) (vs : List Value) (s : Shared) (Q : List (Str × Value) → Shared → Prop), Grd w.params mg mb K s.heap → (∀ a ∈ X, ∃ o, s.heap.get? a = some o) → RepL w.params (vis s.heap X) ps vs →
    (∀ vs' h' t', Keep s.heap h' → vs'.length = names.length → RepL w.params (vis h' X) ps' vs' → Q (names.zip vs') { s with heap := h', toks := t' }) →
    wpAny (model prog w) A (bindArgs fd ⟨vs, kw⟩) Q E s

theorem FnOkM.of_body {prog : Program} {w : World} {mg mb : Str → Option Value} {K : List (Addr × Obj)} {f : Addr} {fd : FuncData} {body : List Stmt} {names : List Str} {ps ps' : List PV} {kw : List (Str × Value)} {M M' : Owns} {r : PV} {d : Nat} (hd : IsDef K f fd) (hb : fd.body = .stmts body)
    (hbind : BindsTo prog w mg mb K fd kw ps names ps') (hnd : names.Nodup) (hlen : ps'.length = names.length)
    (hcn : ∃ ns : List Str, (∀ L, (cellsFrom L fd.scope.names []).map (·.1) = ns) ∧ ns.Nodup)
    (hkind : ∀ L, ∀ x ∈ names, fd.scope.names.lookup x = some .local ∨ (fd.scope.names.lookup x = some .cell ∧ ((cellsFrom L fd.scope.names []).lookup x).isSome = true))
    (h : ∀ A L, EX (calleeCx prog w mg mb K fd A L f d) (names.zip ps') M body (fun fl _ M'' => (fl = .ret r ∨ (fl = .next ∧ r = .none)) ∧ (∀ p ∈ M', p ∈ M'') ∧ (M' ≠ [] → Scalar r))) : FnOkM prog w mg mb K f ps kw M r M' (d + 1) := by
  intro A X vs s R hh hu hdp G tk hX hnod hMX hM hr k
  obtain ⟨o, hK, ho, hclo, hgl, hbl, hkd, hgen, hco, c, oc, cvs, ct, hc1, hc2, hc3, hc4⟩ := hd
  have kh : Keep (hideAll s.heap (keys M)) s.heap := fun b o e => of_hideAll _ e
  have G' := G.kept kh
  refine codeAny_call_function (show A.depth < recursionLimit by omega) (G'.k _ hK) ho hco hgen hb ⟨c, oc, cvs, ct, hc1, G'.k _ hc2, hc3, hc4⟩ ?_
  have hMlive : ∀ a ∈ keys M ++ X, ∃ o, s.heap.get? a = some o := fun a ha => by
    rcases List.mem_append.mp ha with q | q
    · obtain ⟨p, hp, rfl⟩ := List.mem_map.mp q; exact (hM p hp).live
    · exact hX a q
  refine wpAny_tk tk (hbind _ _ (keys M ++ X) vs s _ G' hMlive hr fun vs' hb1 tb1 kb1 hvl rb1 ptb => ?_)
  rw [hclo]
  refine wpAny_tk (s := { s with heap := hb1, toks := tb1 }) ptb (wpAny_newFunctionEnv_cells hkd (fun p hp => hkind _ p.1 (by rw [← zip_names hvl]; exact List.mem_map.mpr ⟨p, hp, rfl⟩)) fun env he s₁ IC pt => ?_)
  subst he
  refine ⟨(G'.kept kb1).lim.keeps IC.toInCall.keep, codeAny_func (body := body) ?_⟩
  obtain ⟨h1, t1, rfl, kp⟩ := IC.done
  replace kp : Keep hb1 h1 := kp
  have ok : (calleeCx prog w mg mb K fd A hb1.objs.size f d).Ok := ⟨hkd, hh, by show A.units + 3 + 4 * d + 20 < cLine; omega, by show A.depth + 1 + d + 5 < recursionLimit; omega, hgl, hbl⟩
  have e0 := get_size hb1
  have snone : ∀ b, hb1.get? b = none → s.heap.get? b = none := fun b e => by
    cases q : s.heap.get? b with
    | none => rfl
    | some o => rw [kb1 _ _ q] at e; cases e
  have hnone : ∀ b, s.heap.get? b = none → (hideAll s.heap (keys M)).get? b = none := fun b e => by
    cases q : (hideAll s.heap (keys M)).get? b with
    | none => rfl
    | some o => rw [kh _ _ q] at e; cases e
  have hcfresh : ∀ p ∈ (callEnvC fd hb1.objs.size f).cells, hb1.get? p.2 = none ∧ hb1.objs.size < p.2 := fun p hp => by
    have := IC.above p.1 p.2 hp
    refine ⟨?_, this⟩
    cases q : hb1.get? p.2 with
    | none => rfl
    | some o => exact absurd (Heap.lt_size q) (Nat.not_lt.mpr (Nat.le_of_lt this))
  have hlk : LookLe (vis hb1 (keys M ++ X)) (vis h1 ((calleeCx prog w mg mb K fd A hb1.objs.size f d).hid ⟨hideAll s.heap (keys M), X⟩ M)) := fun a ob e => by
    obtain ⟨q1, q2⟩ := vis_get e
    refine vis_of (kp _ _ q1) fun hm => ?_
    rcases List.mem_append.mp hm with z | z
    · exact q2 (List.mem_append_left _ z)
    · rcases List.mem_cons.mp (show a ∈ (callEnvC fd hb1.objs.size f).locals :: _ from z) with z | z
      · rw [show a = hb1.objs.size from z, e0] at q1; cases q1
      · rcases List.mem_append.mp z with z | z
        · obtain ⟨p, hp, rfl⟩ := List.mem_map.mp z
          rw [(hcfresh p hp).1] at q1; cases q1
        · exact q2 (List.mem_append_right _ z)
  have hE : Est (calleeCx prog w mg mb K fd A hb1.objs.size f d) ⟨hideAll s.heap (keys M), X⟩ (names.zip ps') M h1 := {
    g := G
    keep := kh.trans (kb1.trans kp)
    liveX := fun a ha => by
      rcases List.mem_cons.mp ha with z | z
      · obtain ⟨o', es, ep, e, _⟩ := IC.toInCall.ns; exact ⟨o', z ▸ e⟩
      · rcases List.mem_append.mp z with z | z
        · obtain ⟨p, hp, rfl⟩ := List.mem_map.mp z
          obtain ⟨o', e, _⟩ := IC.cell _ _ (lookup_of_mem (by obtain ⟨ns, z1, z2⟩ := hcn; show ((cellsFrom (hb1.objs.size + 1) fd.scope.names []).map (·.1)).Nodup; rw [z1]; exact z2) hp)
          exact ⟨o', e⟩
        · obtain ⟨o', e⟩ := hX a z; exact ⟨o', kp _ _ (kb1 _ _ e)⟩
    newL := hnone _ (snone _ e0)
    locC := fun p hp q => by have := (hcfresh p hp).2; rw [show p.2 = hb1.objs.size from q] at this; omega
    cells := fun _ => ⟨fun p hp => hnone _ (snone _ (hcfresh p hp).1), IC.apart⟩
    vars := by
      refine ⟨_, _, IC.toInCall.ns, IC.cell, fun x pv e => ?_⟩
      obtain ⟨v, hm, rv⟩ := lookup_zip_mem (ps := ps') (vs := vs') rb1 hlen x pv e
      have hxn : x ∈ names := by rw [← zip_names hvl]; exact List.mem_map.mpr ⟨_, hm, rfl⟩
      refine ⟨v, rv.get hlk, ?_⟩
      rcases hkind (hb1.objs.size + 1) x hxn with q | ⟨q, q'⟩
      · exact .inl ⟨q, bindL_mem (by rw [zip_names hvl]; exact hnd) hm q⟩
      · exact .inr ⟨.inl q, Option.isSome_iff_exists.mp q', bindC_mem (by rw [zip_names hvl]; exact hnd) hm q⟩
    own := fun p hp => by
      have hlk2 : LookLe (vis s.heap (keys M ++ X)) (vis h1 ((calleeCx prog w mg mb K fd A hb1.objs.size f d).hid ⟨hideAll s.heap (keys M), X⟩ M)) := (vis_keep kb1).trans hlk
      refine ⟨(hM p hp).move hlk2 fun o e => kp _ _ (kb1 _ _ e), hideAll_none _ (List.mem_map.mpr ⟨p, hp, rfl⟩), fun z => ?_⟩
      obtain ⟨ob, e⟩ := (hM p hp).live
      rcases List.mem_cons.mp (show p.1 ∈ (callEnvC fd hb1.objs.size f).locals :: _ from z) with z | z
      · have := kb1 _ _ e; rw [show p.1 = hb1.objs.size from z, e0] at this; cases this
      · rcases List.mem_append.mp z with z | z
        · obtain ⟨q, hq, z⟩ := List.mem_map.mp z
          have := kb1 _ _ e; rw [← z, (hcfresh q hq).1] at this; cases this
        · exact hMX p hp z
    apart := hnod }
  refine h A hb1.objs.size ok ⟨hideAll s.heap (keys M), X⟩ { s with heap := h1, toks := t1 } _ _ hE pt fun fl fw V' M'' h' t' e' rf hq => ?_
  obtain ⟨hq, hM', hsc⟩ := hq
  have hfin : ∀ p ∈ M', MRep w.params (vis h' (keys M' ++ X)) h' p.1 p.2 := fun p hp => (e'.own p (hM' p hp)).1.move (vis_sub fun a ha => by
    rcases List.mem_append.mp ha with z | z
    · obtain ⟨q, hq, rfl⟩ := List.mem_map.mp z
      exact List.mem_append_left _ (List.mem_map.mpr ⟨q, hM' q hq, rfl⟩)
    · exact List.mem_append_right _ (List.mem_cons_of_mem _ (List.mem_append_right _ z))) fun _ e => e
  rcases hq with rfl | ⟨rfl, rfl⟩
  · obtain ⟨v, rfl, rv⟩ := rf
    exact k v h' t' e'.keep hfin (rv.get (vis_sub fun a ha => List.mem_cons_of_mem _ (List.mem_append_right _ ha)))
  · cases rf
    exact k .none h' t' e'.keep hfin rfl
theorem FnOk.ofM {prog : Program} {w : World} {mg mb : Str → Option Value} {K : List (Addr × Obj)} {f : Addr} {ps : List PV} {kw : List (Str × Value)} {r : PV} {d : Nat} (h : FnOkM prog w mg mb K f ps kw [] r [] d) : FnOk prog w mg mb K f ps kw r d := by
  intro A X vs s R hh hu hdp G tk hX hr k
  have hid : ∀ b o, s.heap.get? b = some o → (hideAll s.heap []).get? b = some o := fun b o e => hideAll_get _ e (by simp)
  exact h A X vs s R hh hu hdp (G.kept hid) tk hX List.nodup_nil (fun _ q => nomatch q) (fun _ q => nomatch q) hr fun v h' t' kp _ rv => k v h' t' (fun b o e => kp b o (hid b o e)) rv
end
end Mine

/-! LayP -/
namespace Mine
open PySem PySem.W PySem.Calls PyProof.Rows
set_option Elab.async false
section
variable {C : Cx} {V : Vars} {M : Owns} {K : Cont}

theorem Est.updK {B : Bs} {h h' : Heap} {a : Addr} {m m' : MO} {M₁ M₂ : Owns} (hE : Est C B V (M₁ ++ (a, m) :: M₂) h) (hs : KeepBut [a] h h') (hm : MRep C.w.params (C.look B (M₁ ++ (a, m) :: M₂) h') h' a m') : Est C B V (M₁ ++ (a, m') :: M₂) h' := by
  have hs' : ∀ c o, c ≠ a → h.get? c = some o → h'.get? c = some o := fun c o n e => hs c o (fun q => n (List.mem_singleton.mp q)) e
  have hk : (M₁ ++ (a, m') :: M₂).map (·.1) = (M₁ ++ (a, m) :: M₂).map (·.1) := by simp
  have hh : ∀ B, C.hid B (M₁ ++ (a, m') :: M₂) = C.hid B (M₁ ++ (a, m) :: M₂) := fun B => by unfold Cx.hid; rw [hk]
  have hin : (a, m) ∈ M₁ ++ (a, m) :: M₂ := List.mem_append_right _ List.mem_cons_self
  obtain ⟨_, q0, q1⟩ := hE.own _ hin
  have hl : LookLe (C.look B (M₁ ++ (a, m) :: M₂) h) (C.look B (M₁ ++ (a, m') :: M₂) h') := by
    unfold Cx.look; rw [hh]
    exact vis_but (fun c o n e => hs' c o n e) (List.mem_append_left _ (List.mem_map.mpr ⟨_, hin, rfl⟩))
  have hne : ∀ p ∈ M₁ ++ M₂, p.1 ≠ a := fun p hp q => by
    have ap := hE.apart
    rw [List.map_append, List.map_cons] at ap
    have ap2 := (List.nodup_append.mp ap)
    rcases List.mem_append.mp hp with z | z
    · exact ap2.2.2 p.1 (List.mem_map.mpr ⟨p, z, rfl⟩) a List.mem_cons_self q
    · exact (List.nodup_cons.mp ap2.2.1).1 (q ▸ List.mem_map.mpr ⟨p, z, rfl⟩)
  have hlive : ∃ o, h'.get? a = some o := hm.live
  exact {
    g := hE.g
    keep := fun b o e => hs' b o (fun q => by subst q; rw [q0] at e; cases e) (hE.keep b o e)
    liveX := fun b hb => by
      obtain ⟨o, e⟩ := hE.liveX b hb
      exact ⟨o, hs' b o (fun q => q1 (q ▸ hb)) e⟩
    newL := hE.newL
    locC := hE.locC
    cells := hE.cells
    vars := by
      obtain ⟨mm, cm, ⟨o, es, ep, e1, e2⟩, h2, h3⟩ := hE.vars
      refine ⟨mm, cm, ⟨o, es, ep, hs' _ _ (fun q => q1 (q ▸ List.mem_cons_self)) e1, e2⟩, fun n c e => ?_, fun y pv e => ?_⟩
      · obtain ⟨o', e3, e4⟩ := h2 n c e
        exact ⟨o', hs' _ _ (fun q => q1 (q ▸ List.mem_cons_of_mem _ (List.mem_append_left _ (List.mem_map.mpr ⟨_, mem_of_lookup e, rfl⟩)))) e3, e4⟩
      · obtain ⟨v, r, q⟩ := h3 y pv e
        exact ⟨v, r.get hl, q⟩
    own := fun p hp => by
      rcases List.mem_append.mp hp with z | z
      · have hp' : p ∈ M₁ ++ (a, m) :: M₂ := List.mem_append_left _ z
        exact ⟨(hE.own p hp').1.move hl fun o e => hs' _ _ (hne p (List.mem_append_left _ z)) e, (hE.own p hp').2⟩
      · rcases List.mem_cons.mp z with z | z
        · subst z
          refine ⟨hm.move (by unfold Cx.look; rw [hh]; exact .rfl) fun _ e => e, q0, q1⟩
        · have hp' : p ∈ M₁ ++ (a, m) :: M₂ := List.mem_append_right _ (List.mem_cons_of_mem _ z)
          exact ⟨(hE.own p hp').1.move hl fun o e => hs' _ _ (hne p (List.mem_append_right _ z)) e, (hE.own p hp').2⟩
    apart := by rw [hk]; exact hE.apart }

theorem Grd.frag {P : Params} {mg mb : Str → Option Value} {K : List (Addr × Obj)} {h : Heap} (x : Grd P mg mb K h) : Frag.In K h := fun a o e => x.k (a, o) (by
  clear x
  induction K with
  | nil => cases e
  | cons p r ih =>
    obtain ⟨b, q⟩ := p
    rw [List.lookup_cons] at e
    by_cases z : a = b
    · subst z; simp at e; subst e; exact List.mem_cons_self
    · have : (a == b) = false := by simpa using z
      rw [this] at e
      exact List.mem_cons_of_mem _ (ih e))

theorem Call_attr {M : Model} {A : Around} {E : Value → Shared → Prop} {s : Shared} {env : Env} {o : Expr} {name : Str} {apos pos : Pos} {args : List Expr} {kws : List Keyword} {Q : Value → Shared → Prop}
    (hbase : attributeBase o name env (eval o env) = eval o env) (hform : methodCallForm (args.length + kws.length) (backTo pos (starEach args env)) (backToKw pos (keywordEach kws env)) = true) (hline : (apos.endLine == pos.line) = true)
    (h : wpAny M A (eval o env) (fun ov s₁ => ∀ pl, wpAny M A (getMethod ov name pl) (fun m s₂ => wpAny M A (callWith pos m.1 m.2 (backTo pos (starEach args env)) (backToKw pos (keywordEach kws env))) Q E s₂) E s₁) E s) :
    wpAny M A (eval (.Call (.Attribute o name apos) args kws pos) env) Q E s := by
  rw [arm_eval_Call, hbase]
  refine wpAny_bind (wpAny_mono h (fun ov s₁ h₁ => ?_) fun _ _ e => e)
  refine wpAny_bind (wpAny_standAt ?_)
  have hpos : methodCallPos true o env apos pos = pure pos := by unfold methodCallPos; simp [hline]
  unfold methodCall
  rw [hform]
  refine wpAny_bind (wpAny_holding (wpAny_mono (h₁ _) (fun m s₂ h₂ => ?_) fun _ _ e => e))
  exact wpAny_bind (wpAny_of_eq hpos h₂)

/-- the class's method -/
structure Meth (K : List (Addr × Obj)) (Cl : Addr) (name : Str) (f : Addr) : Prop where
  ga : findIn K (.ref Cl) "__getattribute__" = some (some (.builtin "object.__getattribute__"))
  gx : findIn K (.ref Cl) "__getattr__" = some none
  fn : findIn K (.ref Cl) name = some (some (.ref f))
  ty : typeIn K (.ref f) = some (.type "function")
  ne : name ≠ hdrName
theorem inst_at {P : Params} {h : Heap} {x dx Cl : Addr} {n : Nat} {t : Tok} {u : Value} (h1 : h.get? x = some (instObj Cl dx)) (h2 : h.get? dx = some (hdrObj P t u n)) : InstAt h x (instObj Cl dx) Cl (some (hdrObj P t u n)) := ⟨h1, rfl, rfl, h2⟩
theorem Meth.get {Kl : List (Addr × Obj)} {Cl : Addr} {name : Str} {f : Addr} (m : Meth Kl Cl name f) {prog : Program} {w : World} {A : Around} {E : Value → Shared → Prop} {s : Shared} {P : Params} {x dx : Addr} {n : Nat} {t : Tok} {u : Value} {pl : Sem Bool} {Q : Value × List Value → Shared → Prop}
    (X : Frag.In Kl s.heap) (h1 : s.heap.get? x = some (instObj Cl dx)) (h2 : s.heap.get? dx = some (hdrObj P t u n)) (q : Q (.ref f, [.ref x]) s) : wpAny (model prog w) A (getMethod (.ref x) name pl) Q E s := by
  refine method_fn X (inst_at h1 h2) m.ga m.gx m.fn m.ty ?_ q
  have : (hdrName == name) = false := by simpa using Ne.symm m.ne
  simp [shadowIn, lookIn, Value.isStr, DictEntry.refKey, carriedByValue, m.ne.symm]

/-- an argument handed by its name -/
def KwOk (C : Cx) (V : Vars) (M : Owns) (kws : List Keyword) (kw : List (Str × Value)) : Prop :=
  ∀ (pos : Pos), C.Ok → (backToKw pos (keywordEach kws C.env)).all (·.1.isSome) = true ∧ ∀ (B : Bs) (s : Shared) (Q : List Value → Shared → Prop) (E : Value → Shared → Prop), Est C B V M s.heap → 0 < s.toks →
    (∀ ks h' t', Keep s.heap h' → 0 < t' → ((backToKw pos (keywordEach kws C.env)).filterMap (·.1)).zip ks = kw → Q ks { s with heap := h', toks := t' }) → wpAny (model C.prog C.w) C.A (evalAll ((backToKw pos (keywordEach kws C.env)).map (·.2))) Q E s
theorem KwOk.nil : KwOk C V M [] [] := fun pos ok => ⟨rfl, fun B s Q E hE tk k => wpAny_evalAll_nil (k [] s.heap s.toks .rfl tk rfl)⟩
theorem KwOk.bool {name : Str} {b : Bool} {p cp : Pos} {ck : Nat} : KwOk C V M [⟨some name, .Constant (.bool b) ck cp, p⟩] [(name, .bool b)] := fun pos ok =>
  ⟨rfl, fun B s Q E hE tk k => kwAll_cons (wpAny_Constant_bool (kwAll_nil (k [.bool b] s.heap s.toks .rfl tk rfl)))⟩

theorem EVs.argsKw {es : List Expr} {ps : List PV} (h : EVs C V M es ps) {kws : List Keyword} {kw : List (Str × Value)} (hk : KwOk C V M kws kw) {pos : Pos} {f : Value} (ok : C.Ok) {B : Bs} {s : Shared} {Q : Args → Shared → Prop} {E : Value → Shared → Prop} (hE : Est C B V M s.heap) (tk : 0 < s.toks)
    (k : ∀ vs h' t', Keep s.heap h' → Est C B V M h' → 0 < t' → RepL C.w.params (C.look B M h') ps vs → Q ⟨vs, kw⟩ { s with heap := h', toks := t' }) :
    wpAny (model C.prog C.w) C.A (evalArgs f true (backTo pos (es.map fun e => (false, eval e C.env))) (backToKw pos (keywordEach kws C.env))) Q E s := by
  obtain ⟨hall, hk⟩ := hk pos ok
  cases es with
  | nil =>
    cases h
    exact evalArgs_kw_nil hall (hk B s _ E hE tk fun ks h' t' kp pt e => by rw [e]; exact k [] h' t' kp (hE.kept kp) pt rfl)
  | cons e es =>
    refine evalArgs_kw hall (h.run (pos := pos) ok hE tk fun vs h' t' kp e1 p1 r1 => ?_)
    exact hk B { s with heap := h', toks := t' } _ E e1 p1 fun ks h'' t'' kp2 pt e => by rw [e]; exact k vs h'' t'' (kp.trans kp2) (e1.kept kp2) pt (RepL.mono (vis_keep kp2) _ r1)

theorem form_ok {n : Nat} {pos : Pos} {es : List Expr} {env : Env} {kws : List Keyword} (hs : starEach es env = es.map fun e => (false, eval e env)) (hk : (backToKw pos (keywordEach kws env)).all (·.1.isSome) = true) (hn : n < 29) :
    methodCallForm n (backTo pos (starEach es env)) (backToKw pos (keywordEach kws env)) = true := by
  unfold methodCallForm
  have h1 : (backTo pos (starEach es env)).all (fun x => !x.1) = true := by
    rw [hs]
    clear hs
    induction es with
    | nil => rfl
    | cons e es ih => exact ih
  rw [h1, hk]
  simp only [Bool.true_and, decide_eq_true_eq]
  split <;> omega

/-- a method of an object of the class, every argument frozen -/
theorem EV.methI {o : Expr} {name : Str} {apos pos : Pos} {es : List Expr} {kws : List Keyword} {kw : List (Str × Value)} {p : PV} {ps : List PV} {Cl f : Addr} {fd : FuncData} {r : PV} {d : Nat} (ho : EV C V M o (.inst Cl p)) (m : Meth C.K Cl name f) (hs : starEach es C.env = es.map fun e => (false, eval e C.env)) (ha : EVs C V M es ps) (hk : KwOk C V M kws kw)
    (hd : IsDef C.K f fd) (h : FnOk C.prog C.w C.mg C.mb C.K f (.inst Cl p :: ps) kw r d) (hn : d ≤ C.n) (hbase : attributeBase o name C.env (eval o C.env) = eval o C.env) (hline : (apos.endLine == pos.line) = true) (hfew : es.length + kws.length < 29) :
    EV C V M (.Call (.Attribute o name apos) es kws pos) r := fun ok B s Q E hE tk k => by
  refine Call_attr hbase (form_ok hs (hk pos ok).1 hfew) hline (ho.then ok hE tk fun v h1 t1 k1 e1 p1 r1 pl => ?_)
  obtain ⟨x, dx, n, t, u, rfl, g1, g2, g3⟩ := id r1
  refine m.get (s := { s with heap := h1, toks := t1 }) e1.G.frag (vis_get g1).1 (vis_get g2).1 ?_
  obtain ⟨ob, hK, hob, _⟩ := hd
  rw [hs]
  refine callWith_function_kw (o := ob) (fd := fd) (ha.argsKw hk (pos := pos) ok (s := { s with heap := h1, toks := t1 }) e1 p1 fun vs h2 t2 k2 e2 p2 r2 => ⟨⟨e2.G.k _ hK, hob⟩, wpAny_call ?_⟩)
  have hu := ok.units
  have hdp := ok.depth
  refine h C.A (C.hid B M) (.ref x :: vs) { s with heap := h2, toks := t2 } _ ok.hh (by omega) (by omega) e2.G p2 (fun a q => ?_) ⟨_, _, rfl, r1.get (vis_keep k2), r2⟩ fun v h3 t3 k3 r3 => k v h3 t3 (k1.trans (k2.trans k3)) r3
  rcases List.mem_append.mp q with q | q
  · obtain ⟨p, hp, rfl⟩ := List.mem_map.mp q
    exact (e2.own p hp).1.live
  · exact e2.liveX a q
end
end Mine

/-! LayQ -/
namespace Mine
open PySem PySem.W PySem.Calls PyProof.Rows
set_option Elab.async false
section
variable {C : Cx} {V : Vars} {M : Owns} {K : Cont}

/-- the class's one attribute -/
structure HdrCls (Kf : List (Addr × Obj)) (Cl : Addr) : Prop where
  ga : findIn Kf (.ref Cl) "__getattribute__" = some (some (.builtin "object.__getattribute__"))
  no : findIn Kf (.ref Cl) hdrName = some none
  hd : ∃ cd, clsIn Kf Cl = some cd ∧ cd.hasDict = true
theorem handed_ref {u : Value} (h : ∀ i, u ≠ .builtin i) : handedIn u = true := by cases u <;> first | rfl | exact absurd rfl (h _)
theorem EV.attrHdr {o : Expr} {apos : Pos} {Cl : Addr} {p : PV} (ho : EV C V M o (.inst Cl p)) (hc : HdrCls C.K Cl) (hbase : attributeBase o hdrName C.env (eval o C.env) = eval o C.env) (hp : ∀ P L v, Rep P L p v → ∃ a, v = .ref a) :
    EV C V M (.Attribute o hdrName apos) p := fun ok B s Q E hE tk k => by
  rw [arm_eval_Attribute, hbase]
  refine wpAny_bind (ho.then ok hE tk fun v h1 t1 k1 e1 p1 r1 => wpAny_bind (wpAny_standAt (wpAny_bind (wpAny_holding ?_))))
  obtain ⟨x, dx, n, t, u, rfl, g1, g2, g3⟩ := r1
  obtain ⟨a, rfl⟩ := hp _ _ _ g3
  obtain ⟨cd, hcd, hhd⟩ := hc.hd
  have hf : findObj C.K Cl (some (hdrObj C.w.params t (.ref a) n)) hdrName = some (.value (.ref a)) := by
    unfold findObj
    rw [hcd, Option.bind_some, hc.no, Option.bind_some]
    show (PySem.W.ownOf cd _ hdrName).bind _ = _
    unfold PySem.W.ownOf
    rw [if_pos hhd]
    simp [lookIn, Value.isStr]
  refine get_value (s := { s with heap := h1, toks := t1 }) e1.G.frag (inst_at (vis_get g1).1 (vis_get g2).1) hc.ga hf rfl ?_
  exact wpAny_bind (wpAny_letTemporaryGo (wpAny_pure (k _ h1 (t1 + 1) k1 g3)))

/-- the store that __init__ makes -/
structure HdrSet (Kf : List (Addr × Obj)) (Cl : Addr) : Prop where
  st : findIn Kf (.ref Cl) "__setattr__" = some (some (.builtin "object.__setattr__"))
  over : plainOver Kf Cl = true
  tk : takerIn Kf Cl hdrName = some none
  hd : (clsIn Kf Cl).any (·.hasDict) = true
theorem EX1.storeHdr {o e : Expr} {apos pos : Pos} {Cl x dx L : Addr} {M₁ M₂ : Owns} {Kf : List (Addr × Obj)} (ho : EV C V (M₁ ++ (dx, .dict []) :: M₂) o (.at x)) (hv : EV C V (M₁ ++ (dx, .dict []) :: M₂) e (.at L)) (hx : (x, instObj Cl dx) ∈ C.K) (hKf : ∀ p ∈ Kf, p ∈ C.K) (hs : HdrSet Kf Cl)
    (hsw : swapsWith e (some (.Attribute o hdrName apos)) pos.line C.env = pure false) (h : K .next V (M₁ ++ (dx, .dict [(hdrName, .at L)]) :: M₂)) :
    EX1 C V (M₁ ++ (dx, .dict []) :: M₂) (.Assign [.Attribute o hdrName apos] e pos) K := fun ok B s Q E hE tk k => by
  refine plainObj_wpAny_Assign_Attribute (hv.then ok hE tk fun v h1 t1 k1 e1 p1 r1 => ?_) hsw
  refine ho.then ok (s := { s with heap := h1, toks := t1 }) e1 p1 fun ov h2 t2 k2 e2 p2 r2 => ?_
  cases r1; cases r2
  have hin : (dx, MO.dict []) ∈ M₁ ++ (dx, MO.dict []) :: M₂ := List.mem_append_right _ List.mem_cons_self
  obtain ⟨⟨hsm, es, n, q, r⟩, _, _⟩ := e2.own _ hin
  cases r
  have X : Frag.In Kf h2 := fun a ob e => by
    have hm : ∀ {l : List (Addr × Obj)}, l.lookup a = some ob → (a, ob) ∈ l := fun {l} e => by
      induction l with
      | nil => cases e
      | cons p r ih =>
        obtain ⟨b, q⟩ := p
        rw [List.lookup_cons] at e
        by_cases z : a = b
        · subst z; simp at e; subst e; exact List.mem_cons_self
        · have : (a == b) = false := by simpa using z
          rw [this] at e
          exact List.mem_cons_of_mem _ (ih e)
    exact e2.G.k _ (hKf _ (hm e))
  have hx2 : h2.get? x = some (instObj Cl dx) := e2.G.k _ hx
  have I : InstAt h2 x (instObj Cl dx) Cl (some (dictOf [] n)) := ⟨hx2, rfl, rfl, q⟩
  refine set_plain (s := { s with heap := h2, toks := t2 }) X I hs.st ?_
  refine osa_open (s := { s with heap := h2, toks := t2 + 1 }) X I hs.over hs.tk fun b => ?_
  obtain ⟨cd, hc, hd'⟩ := any_some hs.hd
  refine wpAny_bind (wpAny_pure (wpAny_bind (wpAny_bind (wpAny_loadPart hx2 (wpAny_bind ((looks_clsIn X hc).here ?_))))))
  rw [hd']
  refine wpAny_pure (a := some dx) (wpAny_bind (wpAny_pure (wpAny_bind ?_)))
  unfold nsSet
  refine wpAny_bind (wpAny_bind (wpAny_askSetting (wpAny_pure (wpAny_bind (wpAny_mkText (wpAny_bind (wpAny_loadPart q ?_)))))))
  dsimp only
  rw [aRefKeyMayBeTheName_at]
  rw [if_neg (by simp)]
  refine wpAny_updatePart (s := { s with heap := h2, toks := t2 + 1 + 1 }) q ?_
  have hs7 : Heap.SameBut dx h2 (h2.update dx (Obj.putName hdrName (PyData.keyHash C.w.params hdrName) (.str hdrName (t2 + 1)) (.ref L))) := Heap.SameBut.update ..
  obtain ⟨n', hD⟩ : ∃ n', (h2.update dx (Obj.putName hdrName (PyData.keyHash C.w.params hdrName) (.str hdrName (t2 + 1)) (.ref L))).get? dx = some (hdrObj C.w.params (t2 + 1) (.ref L) n') :=
    ⟨_, Heap.get?_update_self _ q rfl⟩
  refine wpAny_bind (wpAny_lookBehind hD (pastItsLine_dict (by show [_].toArray.size ≤ _; rw [sizeLine_eq]; simp)) ?_)
  refine wpAny_pure ?_
  have e7 := e2.upd (m' := .dict [(hdrName, .at L)]) hs7 ⟨hsm, _, n', hD, t2 + 1, .ref L, [], rfl, rfl, rfl⟩
  exact k .next .next _ _ _ _ e7 rfl h
end
end Mine

/-! LayR -/
namespace Mine
open PySem PySem.W PySem.Calls PyProof.Rows
set_option Elab.async false
section
variable {C : Cx} {V : Vars} {M : Owns} {K : Cont}

theorem RepL.sub {P : Params} {h : Heap} {X Y : List Addr} {l : List PV} {vs : List Value} (k : ∀ a ∈ Y, a ∈ X) (r : RepL P (vis h X) l vs) : RepL P (vis h Y) l vs := RepL.mono (vis_sub k) l r
theorem hid_split {B : Bs} {M₁ M₂ : Owns} {a : Addr} {m : MO} {b : Addr} : b ∈ C.hid B (M₁ ++ (a, m) :: M₂) ↔ b ∈ [a] ++ C.hid B (M₁ ++ M₂) := by
  unfold Cx.hid
  simp only [List.map_append, List.map_cons, List.mem_append, List.mem_cons, List.not_mem_nil, or_false]
  constructor
  · rintro ((q | q | q) | q)
    · exact .inr (.inl (.inl q))
    · exact .inl q
    · exact .inr (.inl (.inr q))
    · exact .inr (.inr q)
  · rintro (q | (q | q) | q)
    · exact .inl (.inr (.inl q))
    · exact .inl (.inl q)
    · exact .inl (.inr (.inr q))
    · exact .inr q

/-- a method that makes the list of the object anew -/
theorem EX1.methM {o : Expr} {name : Str} {apos pos spos : Pos} {es : List Expr} {ps : List PV} {Cl f L : Addr} {fd : FuncData} {l l' : List PV} {d : Nat} {M₁ M₂ : Owns} (ho : EV C V (M₁ ++ (L, .list l) :: M₂) o (.inst Cl (.at L))) (m : Meth C.K Cl name f)
    (hs : starEach es C.env = es.map fun e => (false, eval e C.env)) (ha : EVs C V (M₁ ++ (L, .list l) :: M₂) es ps)
    (hd : IsDef C.K f fd) (h : FnOkM C.prog C.w C.mg C.mb C.K f (.inst Cl (.at L) :: ps) [] [(L, .list l)] .none [(L, .list l')] d) (hn : d ≤ C.n)
    (hbase : attributeBase o name C.env (eval o C.env) = eval o C.env) (hline : (apos.endLine == pos.line) = true) (hfew : es.length < 29) (hi : interactive C.env = false) (hsw : swapsWith (.Call (.Attribute o name apos) es [] pos) none spos.line C.env = pure false)
    (hK : K .next V (M₁ ++ (L, .list l') :: M₂)) : EX1 C V (M₁ ++ (L, .list l) :: M₂) (.Expr (.Call (.Attribute o name apos) es [] pos) spos) K := fun ok B s Q E hE tk k => by
  refine wpAny_Expr ?_ hi hsw
  refine Call_attr hbase (form_ok (kws := []) hs rfl (by simpa using hfew)) hline (ho.then ok hE tk fun v h1 t1 k1 e1 p1 r1 pl => ?_)
  obtain ⟨x, dx, n, t, u, rfl, g1, g2, g3⟩ := id r1
  refine m.get (s := { s with heap := h1, toks := t1 }) e1.G.frag (vis_get g1).1 (vis_get g2).1 ?_
  obtain ⟨ob, hKf, hob, _⟩ := hd
  rw [hs]
  refine Calls.callWith_function (o := ob) (fd := fd) (ha.args (pos := pos) ok (s := { s with heap := h1, toks := t1 }) e1 p1 fun vs h2 t2 k2 e2 p2 r2 => ⟨⟨e2.G.k _ hKf, hob⟩, wpAny_call ?_⟩)
  have hu := ok.units
  have hdp := ok.depth
  have hin : (L, MO.list l) ∈ M₁ ++ (L, MO.list l) :: M₂ := List.mem_append_right _ List.mem_cons_self
  obtain ⟨⟨vs2, n2, q, rl⟩, q0, q1⟩ := e2.own _ hin
  have hLX : L ∉ C.hid B (M₁ ++ M₂) := fun z => by
    rcases List.mem_append.mp z with z | z
    · have ap := e2.apart
      rw [List.map_append, List.map_cons] at ap
      have ap2 := List.nodup_append.mp ap
      rw [List.map_append] at z
      rcases List.mem_append.mp z with z | z
      · exact ap2.2.2 L z L List.mem_cons_self rfl
      · exact (List.nodup_cons.mp ap2.2.1).1 z
    · exact q1 z
  have kh : Keep B.h₀ (hideAll h2 [L]) := fun b o e => hideAll_get _ (e2.keep b o e) fun z => by
    rw [List.mem_singleton.mp z, q0] at e; cases e
  refine h C.A (C.hid B (M₁ ++ M₂)) (.ref x :: vs) { s with heap := h2, toks := t2 } _ ok.hh (by omega) (by omega) (e2.g.kept kh) p2 (fun a z => ?_) (by simp) (fun p hp => by rw [List.mem_singleton.mp hp]; exact hLX)
    (fun p hp => by rw [List.mem_singleton.mp hp]; exact ⟨vs2, n2, q, RepL.sub (fun a z => hid_split.mpr z) rl⟩) (RepL.sub (fun a z => hid_split.mpr z) (show RepL _ _ (.inst Cl (.at L) :: ps) (.ref x :: vs) from ⟨_, _, rfl, r1.get (vis_keep k2), r2⟩)) fun v h3 t3 k3 m3 r3 => ?_
  · rcases List.mem_append.mp z with z | z
    · obtain ⟨p, hp, rfl⟩ := List.mem_map.mp z
      refine (e2.own p ?_).1.live
      rcases List.mem_append.mp hp with z | z
      · exact List.mem_append_left _ z
      · exact List.mem_append_right _ (List.mem_cons_of_mem _ z)
    · exact e2.liveX a z
  · have kb : KeepBut [L] h2 h3 := fun b o n e => k3 b o (hideAll_get _ e n)
    obtain ⟨vs3, n3, z1, z2⟩ := m3 (L, .list l') (List.mem_singleton.mpr rfl)
    have e3 := e2.updK (m' := .list l') kb ⟨vs3, n3, z1, RepL.sub (fun a z => hid_split.mp z) z2⟩
    cases r3
    exact k .next .next V _ h3 t3 e3 rfl hK

/-- what makes an object of the class -/
structure HdrMake (Kf : List (Addr × Obj)) (Cl fI : Addr) : Prop where
  mks : makesIn Kf Cl = true
  ini : findIn Kf (.ref Cl) "__init__" = some (some (.ref fI))
  ty : typeIn Kf (.ref fI) = some (.type "function")
  kp : keepIn Kf (.ref Cl) = true
theorem type_call_under {A : Around} {Cl : Addr} {rest : List Value} {kw : List (Str × Value)} : (A.under (.builtin "type.__call__" ⟨.ref Cl :: rest, kw⟩)).handled = A.handled ∧ (A.under (.builtin "type.__call__" ⟨.ref Cl :: rest, kw⟩)).units ≤ A.units + 1 ∧ (A.under (.builtin "type.__call__" ⟨.ref Cl :: rest, kw⟩)).depth ≤ A.depth + 1 := by
  refine ⟨rfl, ?_, ?_⟩
  · show A.units + (Code.builtin "type.__call__" ⟨.ref Cl :: rest, kw⟩).cUnits ≤ _
    exact Nat.le_of_eq rfl
  · show A.depth + (Code.builtin "type.__call__" ⟨.ref Cl :: rest, kw⟩).weight ≤ _
    have : (Code.builtin "type.__call__" ⟨.ref Cl :: rest, kw⟩).weight = 1 := by first | rfl | kernel_rfl
    omega
/-- `y = Cl([])` -/
theorem EX1.makeHdr {y cls : Str} {py np lp cp pos : Pos} {Cl fI : Addr} {d : Nat} (hy : C.St y) (hf : EV C V M (.Name cls np) (.val (.ref Cl))) (hm : HdrMake C.K Cl fI)
    (h : ∀ x dx L, FnOkM C.prog C.w C.mg C.mb ((x, instObj Cl dx) :: C.K) fI [.at x, .at L] [] [(dx, .dict []), (L, .list [])] .none [(dx, .dict [(hdrName, .at L)]), (L, .list [])] d) (hn : d + 1 ≤ C.n)
    (hsw : swapsWith (.Call (.Name cls np) [.List [] lp] [] cp) (some (.Name y py)) pos.line C.env = pure false)
    (hK : ∀ L, K .next ((y, .inst Cl (.at L)) :: V) ((L, .list []) :: M)) : EX1 C V M (.Assign [.Name y py] (.Call (.Name cls np) [.List [] lp] [] cp) pos) K := fun ok B s Q E hE tk k => by
  refine wpAny_Assign_Name (wpAny_Call_NameR (hf.then ok hE tk fun v h1 t1 k1 e1 p1 r1 => ?_)) hsw
  cases r1
  refine callWith_K (K := C.K) (h₀ := h1) e1.G.frag hm.kp (Calls.spliced_cons (wpAny_List (wpAny_items_nil ⟨Nat.zero_le _, Calls.spliced_nil ?_⟩)))
  have e0 := get_size h1
  have kL : Keep h1 (h1.push (listObj [] 0)) := Keep.rfl.push _
  have G1 : C.G (h1.push (listObj [] 0)) := e1.G.kept kL
  refine ⟨G1.frag, wpAny_call ?_⟩
  refine make_core (makes_of G1.frag hm.mks) (looks_findIn G1.frag hm.ini) (fun self => bind_fn G1.frag self hm.ty) (.inl rfl) ?_
  obtain ⟨u1, u2, u3⟩ := type_call_under (A := C.A) (Cl := Cl) (rest := [.ref h1.objs.size]) (kw := [])
  have eL : (h1.push (listObj [] 0)).get? h1.objs.size = some (listObj [] 0) := Heap.get?_push_size _ rfl
  have z1 : (h1.push (listObj [] 0)).objs.size = h1.objs.size + 1 := Heap.size_push ..
  have eD : ((h1.push (listObj [] 0)).push emptyDict).get? (h1.push (listObj [] 0)).objs.size = some emptyDict := Heap.get?_push_size _ rfl
  have z2 : ((h1.push (listObj [] 0)).push emptyDict).objs.size = (h1.push (listObj [] 0)).objs.size + 1 := Heap.size_push ..
  have eX : (((h1.push (listObj [] 0)).push emptyDict).push (instObj Cl (h1.push (listObj [] 0)).objs.size)).get? ((h1.push (listObj [] 0)).objs.size + 1) = some (instObj Cl (h1.push (listObj [] 0)).objs.size) := by
    rw [← z2]; exact Heap.get?_push_size _ rfl
  have eD3 := Heap.get?_push_of_some (instObj Cl (h1.push (listObj [] 0)).objs.size) eD
  have eL3 := Heap.get?_push_of_some (instObj Cl (h1.push (listObj [] 0)).objs.size) (Heap.get?_push_of_some emptyDict eL)
  have k3 : Keep h1 (((h1.push (listObj [] 0)).push emptyDict).push (instObj Cl (h1.push (listObj [] 0)).objs.size)) := ((Keep.rfl.push _).push _).push _
  have nD : h1.get? (h1.push (listObj [] 0)).objs.size = none := by
    cases q : h1.get? (h1.push (listObj [] 0)).objs.size with
    | none => rfl
    | some o => exact absurd (Heap.lt_size q) (by rw [z1]; exact Nat.not_lt.mpr (Nat.le_succ _))
  have nX : h1.get? ((h1.push (listObj [] 0)).objs.size + 1) = none := by
    cases q : h1.get? ((h1.push (listObj [] 0)).objs.size + 1) with
    | none => rfl
    | some o => exact absurd (Heap.lt_size q) (by rw [z1]; exact Nat.not_lt.mpr (Nat.le_trans (Nat.le_succ _) (Nat.le_succ _)))
  have hDL : (h1.push (listObj [] 0)).objs.size ≠ h1.objs.size := by rw [z1]; exact Nat.succ_ne_self _
  have hXL : (h1.push (listObj [] 0)).objs.size + 1 ≠ h1.objs.size := by rw [z1]; omega
  have hsm : ((h1.push (listObj [] 0)).objs.size == sysModules) = false := by
    have : mainGlobals < h1.objs.size := by obtain ⟨o, es, ep, e, _⟩ := e1.G.g; exact Heap.lt_size e
    have h3 : (3 : Nat) < h1.objs.size := this
    have : (h1.push (listObj [] 0)).objs.size ≠ 1 := by rw [z1]; omega
    simpa [sysModules] using this
  generalize hD : (h1.push (listObj [] 0)).objs.size = D at *
  generalize hL : h1.objs.size = L at *
  generalize hh3 : ((h1.push (listObj [] 0)).push emptyDict).push (instObj Cl D) = h3 at *
  have hXD : D + 1 ≠ D := Nat.succ_ne_self _
  have kh : Keep h1 (hideAll h3 [D, L]) := fun b o e => hideAll_get _ (k3 b o e) fun z => by
    rcases List.mem_cons.mp z with z | z
    · rw [z, nD] at e; cases e
    · rw [List.mem_singleton.mp z, e0] at e; cases e
  have hxh : (hideAll h3 [D, L]).get? (D + 1) = some (instObj Cl D) := hideAll_get _ eX fun z => by
    rcases List.mem_cons.mp z with z | z
    · exact hXD z
    · exact hXL (List.mem_singleton.mp z)
  have G3 := e1.G.kept kh
  have G4 : Grd C.w.params C.mg C.mb ((D + 1, instObj Cl D) :: C.K) (hideAll h3 [D, L]) := ⟨G3.g, G3.b, G3.lim, G3.nb, fun p hp => by
    rcases List.mem_cons.mp hp with z | z
    · subst z; exact hxh
    · exact G3.k p z, G3.bb⟩
  have hu := ok.units
  have hdp := ok.depth
  refine codeAny_mono (h (D + 1) D L (C.A.under (.builtin "type.__call__" ⟨[.ref Cl, .ref L], []⟩)) (C.hid B M) [.ref (D + 1), .ref L] { s with heap := h3, toks := t1 } (fun r s' => match r with
      | .ok (.ret v) => v = .none ∧ ∃ h' t', s' = { s with heap := h', toks := t' } ∧ Keep (hideAll h3 [D, L]) h' ∧ (∀ p ∈ ([(D, .dict [(hdrName, .at L)]), (L, .list [])] : Owns), MRep C.w.params (vis h' ([D, L] ++ C.hid B M)) h' p.1 p.2)
      | _ => False) (u1.trans ok.hh) (by omega) (by omega)
      G4 p1 (fun a z => ?_) (by simpa using hDL) (fun p hp z => ?_) (fun p hp => ?_) ⟨_, _, rfl, rfl, _, _, rfl, rfl, rfl⟩ fun v h' t' k' m' r' => ⟨r', h', t', rfl, k', m'⟩) fun r s' z => ?_
  · rcases List.mem_append.mp z with z | z
    · obtain ⟨p, hp, rfl⟩ := List.mem_map.mp z
      obtain ⟨o, e⟩ := (e1.own p hp).1.live
      exact ⟨o, k3 _ _ e⟩
    · obtain ⟨o, e⟩ := e1.liveX a z; exact ⟨o, k3 _ _ e⟩
  · rcases List.mem_cons.mp hp with q | q
    · subst q; exact e1.fresh nD z
    · rw [List.mem_singleton.mp q] at z; exact e1.fresh e0 z
  · rcases List.mem_cons.mp hp with q | q
    · subst q; exact ⟨hsm, [], 0, eD3, rfl⟩
    · rw [List.mem_singleton.mp q]; exact ⟨[], 0, eL3, rfl⟩
  · match r, z with
    | .ok (.ret v), z =>
      obtain ⟨rfl, h', t', rfl, kp', m'⟩ := z
      refine ⟨rfl, ?_⟩
      have kk : Keep h1 h' := kh.trans kp'
      obtain ⟨_, es, nn, q1, t0, v0, rr, rfl, rv, rrr⟩ := m' (D, .dict [(hdrName, .at L)]) List.mem_cons_self
      cases rrr
      cases rv
      obtain ⟨vs0, n0, q2, rl⟩ := m' (L, .list []) (List.mem_cons_of_mem _ List.mem_cons_self)
      cases rl
      have hx' : h'.get? (D + 1) = some (instObj Cl D) := kp' _ _ hxh
      have e4 := (e1.kept kk).add (a := L) (m := .list []) (e1.fresh e0) (Bs.none_of e1.keep e0) ⟨[], n0, q2, rfl⟩ (.inr ⟨h1, kk, e0, e1⟩) ⟨[], n0, q2, rfl⟩
      have nh : ∀ a, h1.get? a = none → a ≠ L → a ∉ C.hid B ((L, .list []) :: M) := fun a e n z => by
        rcases List.mem_cons.mp (show a ∈ L :: C.hid B M from z) with z | z
        · exact n z
        · exact e1.fresh e z
      refine wp_store ok (s := { s with heap := h', toks := t' }) hy e4 (pv := .inst Cl (.at L)) ⟨D + 1, D, nn, t0, .ref L, rfl, vis_of hx' (nh _ nX hXL), vis_of q1 (nh _ nD hDL), rfl⟩ fun h2 t2 e5 => k .next .next _ _ h2 t2 e5 rfl (hK L)
    | .ok .next, z => exact z.elim
    | .ok .brk, z => exact z.elim
    | .ok .cont, z => exact z.elim
    | .error e, z => exact z.elim
end
end Mine

/-! LayS -/
namespace Mine
open PySem PySem.W PySem.Calls PyProof.Rows
set_option Elab.async false
section
variable {C : Cx} {V : Vars} {M : Owns} {K : Cont}

theorem Bi.isNot_none {p : PV} (h : ∀ P L v, Rep P L p v → v ≠ .none) : Bi C V M (compareOp .IsNot) p .none (.bool true) := fun ok B _ _ s Q E hE tk r1 r2 k => by
  cases r2
  exact isnot_none_ne (h _ _ _ r1) (k _ s.heap s.toks .rfl rfl)
theorem Bi.is_type {a b : String} : Bi C V M (compareOp .Is) (.val (.type a)) (.val (.type b)) (.bool (Value.type a == Value.type b)) := fun ok B _ _ s Q E hE tk r1 r2 k => by
  cases r1; cases r2
  exact wpAny_is_plain rfl (k _ s.heap s.toks .rfl rfl)
theorem Bi.isNot_type {a b : String} : Bi C V M (compareOp .IsNot) (.val (.type a)) (.val (.type b)) (.bool (!(Value.type a == Value.type b))) := fun ok B _ _ s Q E hE tk r1 r2 k => by
  cases r1; cases r2
  exact wpAny_isNot_plain rfl (k _ s.heap s.toks .rfl rfl)
/-- `type(x)` -/
theorem EV.typeOf {np pos : Pos} {e : Expr} {p : PV} {T : String} (hf : EV C V M (.Name (Str.ofString "type") np) (.val (.type "type"))) (h : EV C V M e p) (hs : starEach [e] C.env = [(false, eval e C.env)]) (ht : Ty C M p T) (hT : (Value.type T == Value.type "builtin_function_or_method") = false) :
    EV C V M (.Call (.Name (Str.ofString "type") np) [e] [] pos) (.val (.type T)) := fun ok B s Q E hE tk k => by
  refine wpAny_Call_NameR (hf.then ok hE tk fun v h1 t1 k1 e1 p1 r1 => ?_)
  cases r1
  rw [hs]
  refine PySem.callWith_type1 (h.then ok (s := { s with heap := h1, toks := t1 }) e1 p1 fun v h2 t2 k2 e2 p2 r2 => ?_)
  exact call_type_of (ht B V { s with heap := h2, toks := t2 } v e2 r2).1 hT (k _ h2 t2 (k1.trans k2) rfl)
theorem ET.debug {p : Pos} (he : isTrue (.Name (Str.ofString "__debug__") p) C.env (eval (.Name (Str.ofString "__debug__") p) C.env) = (do let v ← eval (.Name (Str.ofString "__debug__") p) C.env; standAt p; holding [v] (truthy v))) : ET C V M (.Name (Str.ofString "__debug__") p) true := fun ok B s Q E hE tk k => by
  refine wpAny_isTrue_value ?_ he
  have : eval (.Name (Str.ofString "__debug__") p) C.env = (do standAt p; debugConstant) := rfl
  rw [this]
  exact wpAny_bind (wpAny_standAt (wpAny_bind (wpAny_rule (wpAny_pure (wpAny_truthy_bool (k s.heap s.toks .rfl))))))

/-- a loop over nothing: an empty owned list -/
theorem EX1.forOwnNil {target iter : Expr} {body : List Stmt} {pos : Pos} {L : Addr} (hv : EV C V M iter (.at L)) (hm : (L, MO.list []) ∈ M) (h : K .next V M) (hs : ∀ x, foldedSetIterable iter C.env x = pure x) : EX1 C V M (.For target iter body [] pos) K := fun ok B s Q E hE tk k => by
  refine wpAny_For (hv.then ok hE tk fun v h1 t1 k1 e1 p1 r1 => ?_) hs
  cases r1
  obtain ⟨⟨vs, n, q, r⟩, _, _⟩ := e1.own _ hm
  cases r
  have hl : h1.IsList L #[] := ⟨_, q, rfl, n, rfl⟩
  refine wpAny_pyIter_list hl ?_
  have e0 := get_size h1
  have kp : Keep h1 (h1.push { cls := .type "list_iterator", data := .fields #[.ref L, .int 0 0] }) := Keep.rfl.push _
  refine codeAny_forLoop_any (fun n s' => s' = { s with heap := h1.push { cls := .type "list_iterator", data := .fields #[.ref L, .int 0 0] }, toks := t1 }) ?_ 0 rfl
  rintro n s' rfl
  refine wpAny_pyNext_list_end ok.hh ⟨_, Heap.get?_push_size _ rfl, rfl, rfl⟩ (hl.push _) rfl fun h' he => ?_
  refine wpAny_execs_nil (k .next .next V M h' t1 (e1.kept fun b o e => he b o (fun z => by rw [z, e0] at e; cases e) (kp b o e)) rfl h)
theorem empty_at {P : Params} {prog : Program} {w : World} {h : Heap} {d : Addr} {n : Nat} (e : h.get? d = some (dictOf [] n)) : h.DictAt (PySem.strKind prog w) d [] n :=
  ⟨_, #[], e, ⟨rfl, rfl, rfl⟩, rfl, fun _ he => by simp at he, Pairs.nil, List.nodup_nil⟩
/-- a loop over the items of an empty dict -/
theorem EX1.forItemsNil {target o : Expr} {body : List Stmt} {apos cpos pos : Pos} (hv : EV C V M o (.dict [])) (h : K .next V M) (hbase : attributeBase o (Str.ofString "items") C.env (eval o C.env) = eval o C.env) (hline : (apos.endLine == cpos.line) = true)
    (hs : ∀ x, foldedSetIterable (.Call (.Attribute o (Str.ofString "items") apos) [] [] cpos) C.env x = pure x) : EX1 C V M (.For target (.Call (.Attribute o (Str.ofString "items") apos) [] [] cpos) body [] pos) K := fun ok B s Q E hE tk k => by
  refine wpAny_For (wpAny_Call_method_lateS hbase rfl hline (hv.then ok hE tk fun v h1 t1 k1 e1 p1 r1 => ?_)) hs
  obtain ⟨d, es, n, rfl, hsm, q, r⟩ := r1
  cases r
  have hd1 := (vis_get q).1
  have hm := empty_at (P := C.w.params) (prog := C.prog) (w := C.w) hd1
  refine ⟨"dict", "dict.items", F.plainAttrs_dict, F.slot_dict_items, F.type_dict_items, hm.dictOf.typeIs, hm.dictOf.mapOf.noDict, ?_⟩
  refine method_meetsIn (s := { s with heap := h1, toks := t1 }) F.slot_dict_items F.entry_dict_items rfl (PySem.evalArgs_none ⟨rfl, hm.dictOf.typeIs, F.args_dict_items_1 _, _, meets_dict_items (PySem.strKind C.prog C.w) d hsm, ⟨[], hm.dictOf⟩, ?_⟩)
  have e0 := get_size h1
  have kp1 : Keep h1 (h1.push { cls := .type "dict_items", data := .fields #[.ref d] }) := Keep.rfl.push _
  refine wpAny_pyIter_items (knd := PySem.strKind C.prog C.w) (d := d) (kvs := []) (ep := n) ⟨_, Heap.get?_push_size _ rfl, rfl, rfl⟩ (hm.at fun o e => kp1 _ _ e) ?_
  have e2 := get_size (h1.push { cls := .type "dict_items", data := .fields #[.ref d] })
  have kp2 : Keep h1 ((h1.push { cls := .type "dict_items", data := .fields #[.ref d] }).push { cls := .type "dict_itemiterator", data := .fields #[.none, .bool false, .ref d, .int 0 0, .int ([] : List (Str × Value)).length 0, .int n 0, .none, .none] }) := kp1.push _
  refine codeAny_forLoop_any (fun _ s' => s' = { s with heap := (h1.push { cls := .type "dict_items", data := .fields #[.ref d] }).push { cls := .type "dict_itemiterator", data := .fields #[.none, .bool false, .ref d, .int 0 0, .int ([] : List (Str × Value)).length 0, .int n 0, .none, .none] }, toks := t1 }) ?_ 0 rfl
  rintro _ s' rfl
  refine wpAny_pyNext_items_end (knd := PySem.strKind C.prog C.w) (kvs := []) ok.hh (Heap.get?_push_size _ rfl) (hm.at fun o e => kp2 _ _ e) rfl fun h' he => ?_
  refine wpAny_execs_nil (k .next .next V M h' t1 (e1.kept fun b o e => he b o (fun z => by have := kp1 _ _ e; rw [z, e2] at this; cases this) (kp2 b o e)) rfl h)

/-- append, the list told by any tree -/
theorem EX1.appendG {o : Expr} {ap pos spos : Pos} {e : Expr} {a : Addr} {M₁ M₂ : Owns} {l : List PV} {p : PV} (hx : EV C V (M₁ ++ (a, .list l) :: M₂) o (.at a)) (hs : starEach [e] C.env = [(false, eval e C.env)]) (he : EV C V (M₁ ++ (a, .list l) :: M₂) e p) (hl : l.length ≤ sizeLine)
    (hbase : attributeBase o (Str.ofString "append") C.env (eval o C.env) = eval o C.env) (hline : (ap.endLine == pos.line) = true) (hi : interactive C.env = false) (hsw : swapsWith (.Call (.Attribute o (Str.ofString "append") ap) [e] [] pos) none spos.line C.env = pure false)
    (h : K .next V (M₁ ++ (a, .list (l ++ [p])) :: M₂)) : EX1 C V (M₁ ++ (a, .list l) :: M₂) (.Expr (.Call (.Attribute o (Str.ofString "append") ap) [e] [] pos) spos) K := fun ok B s Q E hE tk k => by
  refine wpAny_Expr ?_ hi hsw
  refine Call_method1 hbase hs hline (hx.then ok hE tk fun v h1 t1 k1 e1 p1 r1 => ?_)
  cases r1
  have hin : (a, MO.list l) ∈ M₁ ++ (a, MO.list l) :: M₂ := List.mem_append_right _ List.mem_cons_self
  obtain ⟨⟨vs, n, q, r⟩, _, _⟩ := e1.own _ hin
  refine ⟨"list", "list.append", mth_append.pa, mth_append.slot, mth_append.ty, ⟨_, q, rfl⟩, fun b z => by cases z; exact ⟨_, q, rfl⟩, ?_⟩
  refine Calls.callWith_builtin rfl (Calls.evalArgs_plain (Calls.spliced_cons (he.then ok (s := { s with heap := h1, toks := t1 }) e1 p1 fun y h2 t2 k2 e2 p2 r2 => Calls.spliced_nil ?_)))
  obtain ⟨⟨vs, n, q, r⟩, _, _⟩ := e2.own _ hin
  have q' : h2.get? a = some (listObj vs n) := q
  refine call_meets slot_list_append ⟨_, q', rfl⟩ F.entry_list_append (F.args_list_append_2 _ _) (AutoListH.list_append_list_val_0 a vs.toArray n y (by rw [List.size_toArray, r.len]; exact hl)) ⟨q', ?_⟩
  have hs7 : Heap.SameBut a h2 (h2.update a (Obj.mapSeq fun a => a.push y)) := Heap.SameBut.update ..
  obtain ⟨k', hD7⟩ : ∃ k', (h2.update a (Obj.mapSeq fun a => a.push y)).get? a = some (listObj (vs ++ [y]) k') :=
    ⟨_, (Heap.get?_update_self _ q' rfl).trans (by show some (Obj.mk _ _ (Data.seq (vs.toArray.push y) _) _) = some (Obj.mk _ _ (Data.seq (vs ++ [y]).toArray _) _); rw [List.push_toArray])⟩
  have hl7 : LookLe (C.look B (M₁ ++ (a, .list l) :: M₂) h2) (C.look B (M₁ ++ (a, .list l) :: M₂) (h2.update a (Obj.mapSeq fun a => a.push y))) := vis_but (fun c o n e => hs7.extBut c o n e) (List.mem_append_left _ (List.mem_map.mpr ⟨_, hin, rfl⟩))
  have e7 := e2.upd (m' := .list (l ++ [p])) hs7 ⟨_, k', hD7, RepL.snoc (RepL.mono hl7 _ r) (r2.get hl7)⟩
  exact k .next .next _ _ _ t2 e7 rfl h

theorem RepL.set {P : Params} {L : Look} : ∀ {l : List PV} {vs : List Value} {i : Nat} {p : PV} {v : Value}, RepL P L l vs → Rep P L p v → RepL P L (l.set i p) (vs.set i v)
  | [], _, _, _, _, h, _ => by cases h; rfl
  | q :: l, _, 0, p, v, h, r => by obtain ⟨v', r', rfl, _, h2⟩ := h; exact ⟨v, r', rfl, r, h2⟩
  | q :: l, _, i + 1, p, v, h, r => by obtain ⟨v', r', rfl, h1, h2⟩ := h; exact ⟨v', _, rfl, h1, RepL.set h2 r⟩
/-- `a[i] = e`, a owned -/
theorem EX1.setItem {o i e : Expr} {pos' pos : Pos} {a : Addr} {M₁ M₂ : Owns} {l : List PV} {p : PV} {n : Int} (he : EV C V (M₁ ++ (a, .list l) :: M₂) e p) (ho : EV C V (M₁ ++ (a, .list l) :: M₂) o (.at a)) (hi : EV C V (M₁ ++ (a, .list l) :: M₂) i (.int n)) (h0 : 0 ≤ n) (hn : n < l.length) (hf : n < 2 ^ 63)
    (hsw : swapsWith e (some (.Subscript o i pos')) pos.line C.env = pure false) (h : K .next V (M₁ ++ (a, .list (l.set n.toNat p)) :: M₂)) : EX1 C V (M₁ ++ (a, .list l) :: M₂) (.Assign [.Subscript o i pos'] e pos) K := fun ok B s Q E hE tk k => by
  refine wpAny_Assign_Subscript (he.then ok hE tk fun v h1 t1 k1 e1 p1 r1 => ?_) hsw
  refine ho.then ok (s := { s with heap := h1, toks := t1 }) e1 p1 fun ov h2 t2 k2 e2 p2 r2 => ?_
  refine hi.then ok (s := { s with heap := h2, toks := t2 }) e2 p2 fun iv h3 t3 k3 e3 p3 r3 => ?_
  cases r2
  obtain ⟨tt, rfl⟩ := r3
  have hin : (a, MO.list l) ∈ M₁ ++ (a, MO.list l) :: M₂ := List.mem_append_right _ List.mem_cons_self
  obtain ⟨⟨vs, m, q, r⟩, _, _⟩ := e3.own _ hin
  have q' : h3.get? a = some (listObj vs m) := q
  have hl : h3.IsList a vs.toArray := listObj_of q'
  unfold PySem.setItem
  try with_reducible refine wpAny_holding ?_
  refine wpAny_bind (wpAny_sequenceKey (s := { s with heap := h3, toks := t3 }) hl.typeIs (by decide) ?_)
  refine wpAny_bind (wpAny_callSpecial?_slot (s := { s with heap := h3, toks := t3 }) (name := Str.ofString "__setitem__") hl.typeIs slot_list_setitem
    (wpAny_call_entry slot_list_setitem hl.typeIs entry_list_setitem ?_ (args_list_setitem _ _ _)))
  show wpAny _ _ (Builtin.List.listSubscript? (.int n tt) >>= _) _ _ _
  refine wpAny_bind (wpAny_listSubscript_int (fitsIndex_of h0 hf) ?_)
  obtain ⟨j, rfl⟩ := Int.eq_ofNat_of_zero_le h0
  have hj : j < vs.toArray.size := by rw [List.size_toArray, r.len]; omega
  have hx' : vs.toArray[j]? = some vs.toArray[j] := Array.getElem?_eq_getElem hj
  show wpAny _ _ ((seqItemAt a j >>= fun r => pure (r.map (j, ·))) >>= _) _ _ _
  refine wpAny_bind (wpAny_bind (wpAny_seqItemAt (s := { s with heap := h3, toks := t3 }) q' rfl (wpAny_pure ?_)))
  rw [hx']
  show wpAny _ _ (setSeqItemAt a j v >>= _) _ _ _
  have hs7 : Heap.SameBut a h3 (h3.update a (Obj.mapSeq (·.setIfInBounds j v))) := Heap.SameBut.update ..
  obtain ⟨k', hD7⟩ : ∃ k', (h3.update a (Obj.mapSeq (·.setIfInBounds j v))).get? a = some (listObj (vs.set j v) k') :=
    ⟨_, (Heap.get?_update_self _ q' rfl).trans (by show some (Obj.mk _ _ (Data.seq (vs.toArray.setIfInBounds j v) _) _) = some (Obj.mk _ _ (Data.seq (vs.set j v).toArray _) _); rw [List.setIfInBounds_toArray])⟩
  have hl7 : LookLe (C.look B (M₁ ++ (a, .list l) :: M₂) h3) (C.look B (M₁ ++ (a, .list l) :: M₂) (h3.update a (Obj.mapSeq (·.setIfInBounds j v)))) := vis_but (fun c o n e => hs7.extBut c o n e) (List.mem_append_left _ (List.mem_map.mpr ⟨_, hin, rfl⟩))
  have e7 := e3.upd (m' := .list (l.set j p)) hs7 ⟨_, k', hD7, RepL.set (RepL.mono hl7 _ r) (r1.get ((vis_keep (k2.trans k3)).trans hl7))⟩
  refine wpAny_bind (wpAny_setSeqItemAt (s := { s with heap := h3, toks := t3 }) q' rfl ?_)
  have fin := k .next .next V _ _ t3 e7 rfl h
  first
    | exact wpAny_bind (wpAny_pure (wpAny_pure ⟨.none, rfl, wpAny_pure fin⟩))
    | exact wpAny_pure ⟨.none, rfl, wpAny_pure fin⟩

theorem RepL.scalar {P : Params} {L L' : Look} : ∀ {l : List PV} {vs : List Value}, (∀ p ∈ l, Scalar p) → RepL P L l vs → RepL P L' l vs
  | [], _, _, h => h
  | p :: l, _, hs, h => by obtain ⟨v, r, rfl, h1, h2⟩ := h; exact ⟨v, r, rfl, hs p List.mem_cons_self _ _ _ _ h1, RepL.scalar (fun q hq => hs q (List.mem_cons_of_mem _ hq)) h2⟩
/-- a fresh list, held as one's own -/
theorem EX1.assignOwn {x : Str} {pos' pos : Pos} {e : Expr} {l : List PV} (hk : C.St x) (hv : SN C V M (eval e C.env) l) (hsc : ∀ p ∈ l, Scalar p) (hs : swapsWith e (some (.Name x pos')) pos.line C.env = pure false) (h : ∀ a, K .next ((x, .at a) :: V) ((a, .list l) :: M)) :
    EX1 C V M (.Assign [.Name x pos'] e pos) K := fun ok B s Q E hE tk k => by
  refine wpAny_Assign_Name (wpAny_tk tk (hv ok B s _ E hE tk fun a vs n h1 t1 e0 e1 r k1 pt => ?_)) hs
  have e2 := (hE.kept k1).add (a := a) (m := .list l) (hE.fresh e0) (Bs.none_of hE.keep e0) ⟨vs, n, e1, r⟩ (.inr ⟨s.heap, k1, e0, hE⟩) ⟨vs, n, e1, RepL.scalar hsc r⟩
  exact wp_store ok (s := { s with heap := h1, toks := t1 }) hk e2 (pv := .at a) rfl fun h2 t2 e3 => k .next .next _ _ h2 t2 e3 rfl (h a)

/-- pairs of a dict display -/
def RepP (P : Params) (L : Look) : List (Str × PV) → List (Value × Value) → Prop
  | [], vs => vs = []
  | (x, p) :: l, vs => ∃ t v r, vs = (.str x t, v) :: r ∧ Rep P L p v ∧ RepP P L l r
theorem RepP.mono {P : Params} {L L' : Look} (hl : LookLe L L') : ∀ {l : List (Str × PV)} {vs : List (Value × Value)}, RepP P L l vs → RepP P L' l vs
  | [], _, h => h
  | (x, p) :: l, _, h => by obtain ⟨t, v, r, e, h1, h2⟩ := h; exact ⟨t, v, r, e, h1.get hl, RepP.mono hl h2⟩
def DT (C : Cx) (V : Vars) (M : Owns) (ks : List (Option Expr)) (vs : List Expr) (Kd : List (Str × PV) → Owns → Prop) : Prop :=
  C.Ok → ∀ (pos : Pos) (B : Bs) (s : Shared) (Q : List (Value × Value) → Shared → Prop) (E : Value → Shared → Prop), Est C B V M s.heap → 0 < s.toks →
    (∀ items M' prs h' t', Keep s.heap h' → Est C B V M' h' → 0 < t' → (∀ a ∈ keys M', a ∈ keys M ∨ s.heap.get? a = none) → RepP C.w.params (C.look B M' h') items prs → Kd items M' → Q prs { s with heap := h', toks := t' }) →
    wpAny (model C.prog C.w) C.A (evalPairs (pairTrees ks vs C.env pos)) Q E s
theorem DT.nil {Kd : List (Str × PV) → Owns → Prop} (h : Kd [] M) : DT C V M [] [] Kd := fun ok pos B s Q E hE tk k => pairTrees_nil_walk (k [] M [] s.heap s.toks .rfl hE tk (fun _ q => .inl q) rfl h)
theorem DT.cons {ke ve : Expr} {ks : List (Option Expr)} {vs : List Expr} {x : Str} {p : PV} {Kd : List (Str × PV) → Owns → Prop} (hk : EV C V M ke (.str x)) (hv : EV C V M ve p) (h : DT C V M ks vs fun items M' => Kd ((x, p) :: items) M') : DT C V M (some ke :: ks) (ve :: vs) Kd := fun ok pos B s Q E hE tk k => by
  refine pairTrees_cons_walk (hk.then ok hE tk fun a h1 t1 k1 e1 p1 r1 => ?_)
  refine hv.then ok (s := { s with heap := h1, toks := t1 }) e1 p1 fun b h2 t2 k2 e2 p2 r2 => ?_
  obtain ⟨t, rfl⟩ := r1
  refine h ok pos B { s with heap := h2, toks := t2 } _ E e2 p2 fun items M' prs h3 t3 k3 e3 p3 hn rp hKd => ?_
  have hl : LookLe (C.look B M h2) (C.look B M' h3) := fun c o z => by
    obtain ⟨z1, z2⟩ := vis_get z
    refine vis_of (k3 _ _ z1) fun q => ?_
    rcases List.mem_append.mp q with q | q
    · rcases hn c q with q | q
      · exact z2 (List.mem_append_left _ q)
      · have q' : h2.get? c = none := q
        rw [q'] at z1; cases z1
    · exact z2 (List.mem_append_right _ q)
  refine k ((x, p) :: items) M' ((.str x t, b) :: prs) h3 t3 (k1.trans (k2.trans k3)) e3 p3 (fun c q => (hn c q).imp id fun q => ?_) ⟨t, b, prs, rfl, r2.get hl, rp⟩ hKd
  have q' : h2.get? c = none := q
  cases z : s.heap.get? c with
  | none => rfl
  | some o => rw [k2 _ _ (k1 _ _ z)] at q'; cases q'
theorem DT.own {ke ve : Expr} {ks : List (Option Expr)} {vs : List Expr} {x : Str} {l : List PV} {Kd : List (Str × PV) → Owns → Prop} (hk : EV C V M ke (.str x)) (hv : SN C V M (eval ve C.env) l) (hsc : ∀ p ∈ l, Scalar p) (h : ∀ a, DT C V ((a, .list l) :: M) ks vs fun items M' => Kd ((x, .at a) :: items) M') : DT C V M (some ke :: ks) (ve :: vs) Kd := fun ok pos B s Q E hE tk k => by
  refine pairTrees_cons_walk (hk.then ok hE tk fun a h1 t1 k1 e1 p1 r1 => ?_)
  refine wpAny_tk (s := { s with heap := h1, toks := t1 }) p1 (hv ok B { s with heap := h1, toks := t1 } _ E e1 p1 fun a vs n h2 t2 e0 e2 r k2 p2 => ?_)
  obtain ⟨t, rfl⟩ := r1
  have e0' : h1.get? a = none := e0
  have k2' : Keep h1 h2 := k2
  have e3 := (e1.kept k2').add (a := a) (m := .list l) (e1.fresh e0') (Bs.none_of e1.keep e0') ⟨vs, n, e2, r⟩ (.inr ⟨h1, k2', e0', e1⟩) ⟨vs, n, e2, RepL.scalar hsc r⟩
  refine h a ok pos B { s with heap := h2, toks := t2 } _ E e3 p2 fun items M' prs h3 t3 k3 e4 p3 hn rp hKd => ?_
  refine k ((x, .at a) :: items) M' ((.str x t, .ref a) :: prs) h3 t3 (k1.trans (k2'.trans k3)) e4 p3 (fun c q => ?_) ⟨t, .ref a, prs, rfl, rfl, rp⟩ hKd
  have fresh : ∀ c, h1.get? c = none → s.heap.get? c = none := fun c q => by
    cases z : s.heap.get? c with
    | none => rfl
    | some o => rw [k1 _ _ z] at q; cases q
  rcases hn c q with q | q
  · rcases List.mem_cons.mp (show c ∈ a :: keys M from q) with q | q
    · exact .inr (q ▸ fresh _ e0')
    · exact .inl q
  · have q' : h2.get? c = none := q
    refine .inr (fresh _ ?_)
    cases z : h1.get? c with
    | none => rfl
    | some o => rw [k2' _ _ z] at q'; cases q'

theorem RepP.carries {prog : Program} {w : World} {P : Params} {L : Look} : ∀ {l : List (Str × PV)} {vs : List (Value × Value)}, RepP P L l vs → ∃ kvs, Carries (PySem.strKind prog w) vs kvs ∧ kvs.map (·.1) = l.map (·.1) ∧ ∀ es : List DictEntry, KeysOf (PySem.strKind prog w) es.toArray → Pairs (PySem.strKind prog w) es kvs → P = w.params → RepD P L l es
  | [], _, h => by cases h; exact ⟨[], trivial, rfl, fun es _ hp _ => by cases hp; rfl⟩
  | (x, p) :: l, _, h => by
    obtain ⟨t, v, r, rfl, h1, h2⟩ := h
    obtain ⟨kvs, c1, c2, c3⟩ := RepP.carries (prog := prog) (w := w) h2
    refine ⟨(x, v) :: kvs, ⟨by simp [PySem.strKind, Value.isStrOf], rfl, c1⟩, by simp [c2], fun es hk hp hP => ?_⟩
    subst hP
    cases hp with
    | cons g1 g2 g3 =>
      rename_i e es
      obtain ⟨t', hkey⟩ := Value.isStrOf_shape g1
      obtain ⟨k', z1, z2⟩ := hk e (by simp)
      have hkx : k' = x := by
        rw [hkey] at z1
        have : (x == k') = true := z1
        exact (beq_iff_eq.mp this).symm
      subst hkx
      refine ⟨t', e.val, es, ?_, g2 ▸ h1, c3 es (fun d hd => hk d (by simp at hd ⊢; exact .inr hd)) g3 rfl⟩
      obtain ⟨eh, ek, ev⟩ := e
      dsimp only at hkey z2 ⊢
      rw [hkey, z2]
      rfl
theorem RepP.len {P : Params} {L : Look} : ∀ {l : List (Str × PV)} {vs : List (Value × Value)}, RepP P L l vs → vs.length = l.length
  | [], _, h => by cases h; rfl
  | (x, p) :: l, _, h => by obtain ⟨t, v, r, rfl, h1, h2⟩ := h; simp [RepP.len h2]

theorem EX1.assignDict {y : Str} {py dp pos : Pos} {ks : List (Option Expr)} {vs : List Expr} (hy : C.St y) (hall : ks.all (·.isSome) = true) (hl : ks.length = vs.length) (h0 : ks ≠ []) (hlen : ks.length ≤ 15) (hsw : swapsWith (.Dict ks vs dp) (some (.Name y py)) pos.line C.env = pure false)
    (h : DT C V M ks vs fun items M' => (items.map (·.1)).Nodup ∧ K .next ((y, .dict items) :: V) M') : EX1 C V M (.Assign [.Name y py] (.Dict ks vs dp) pos) K := fun ok B s Q E hE tk k => by
  refine wpAny_Assign_Name (wpAny_Dict_walk (knd := PySem.strKind C.prog C.w) hall hl h0 hlen ?_) hsw
  have e0 := get_size s.heap
  have kp : Keep s.heap (s.heap.push emptyDict) := Keep.rfl.push _
  have eD : (s.heap.push emptyDict).get? s.heap.objs.size = some (dictOf [] 0) := Heap.get?_push_size _ rfl
  have hwD : ∀ b ∈ [s.heap.objs.size], s.heap.get? b = none := fun b hb => by rw [List.mem_singleton.mp hb]; exact e0
  have E1 := hE.rebaseW (wr := [s.heap.objs.size]) kp hwD (fun b hb => by rw [List.mem_singleton.mp hb]; exact ⟨_, eD⟩)
  have hnh : s.heap.objs.size ∉ C.hid B M := hE.fresh e0
  have kback : Keep B.h₀ (hideAll (s.heap.push emptyDict) (C.own M ++ [s.heap.objs.size])) := (hE.kept kp).strip_keep _ fun b hb => Bs.none_of hE.keep (hwD b hb)
  have hsm : (s.heap.objs.size == sysModules) = false := by
    have : mainGlobals < s.heap.objs.size := by obtain ⟨o, es, ep, e, _⟩ := hE.G.g; exact Heap.lt_size e
    have h3 : (3 : Nat) < s.heap.objs.size := this
    have : s.heap.objs.size ≠ 1 := by omega
    simpa [sysModules] using this
  refine h ok dp _ { s with heap := s.heap.push emptyDict } _ E E1 tk fun items M' prs h2 t2 k2 e2 p2 hn rp hK => ?_
  obtain ⟨hnd, hK⟩ := hK
  generalize s.heap.objs.size = D at *
  have k2' : Keep (s.heap.push emptyDict) h2 := k2
  obtain ⟨kvs, c1, c2, c3⟩ := rp.carries (prog := C.prog) (w := C.w)
  have hD2 : h2.get? D = some (dictOf [] 0) := k2' _ _ eD
  refine ⟨kvs, c1, (empty_at (P := C.w.params) (prog := C.prog) (w := C.w) hD2).dictOf, fun h' hm hs => ?_⟩
  rw [merged_nil_of_nodup kvs (by rw [c2]; exact hnd)] at hm
  obtain ⟨o, es, ep, ho, ⟨x1, x2, x3⟩, hdat, hkeys, hpairs, _⟩ := hm
  have ho' : h'.get? D = some (dictOf es.toList ep) := by
    rw [ho]
    obtain ⟨oc, od, oda, os⟩ := o
    dsimp only at x1 x2 x3 hdat
    subst x1; subst x2; subst x3; subst hdat
    simp [dictOf]
  have kb : KeepBut [D] h2 h' := fun b o n e => hs.extBut _ _ (fun q => n (List.mem_singleton.mpr q)) e
  have hloc : ∀ b ∈ [D], b ≠ C.env.locals ∧ ∀ p ∈ C.env.cells, b ≠ p.2 := fun b hb => by
    rw [List.mem_singleton.mp hb]
    exact ⟨fun q => hnh (List.mem_append_right _ (q ▸ List.mem_cons_self)), fun p hp q => hnh (List.mem_append_right _ (List.mem_cons_of_mem _ (List.mem_append_left _ (q ▸ List.mem_map.mpr ⟨p, hp, rfl⟩))))⟩
  have hXD : ∀ a ∈ B.X, a ∉ [D] := fun a ha q => hnh (List.mem_append_right _ (List.mem_cons_of_mem _ (List.mem_append_right _ (List.mem_singleton.mp q ▸ ha))))
  have e4 : Est C B V M' h' := (e2.stepX kb (fun b hb => hideAll_none _ (List.mem_append_right _ hb)) hloc hXD).weaken kback hE.g
  have hDM : D ∉ C.hid B M' := fun q => by
    rcases List.mem_append.mp q with q | q
    · obtain ⟨p, hp, z⟩ := List.mem_map.mp q
      exact (e2.own p hp).2.2 (z ▸ List.mem_cons_of_mem _ (List.mem_append_right _ (List.mem_append_left _ (List.mem_singleton.mpr rfl))))
    · exact hnh (List.mem_append_right _ q)
  have hl2 : LookLe (C.look ⟨hideAll (s.heap.push emptyDict) (C.own M ++ [D]), [D] ++ B.X⟩ M' h2) (C.look B M' h') := fun b o z => by
    obtain ⟨z1, z2⟩ := vis_get z
    refine vis_of (kb _ _ (fun q => z2 ?_) z1) fun q => z2 ?_
    · exact List.mem_append_right _ (List.mem_cons_of_mem _ (List.mem_append_right _ (List.mem_append_left _ q)))
    · rcases List.mem_append.mp q with q | q
      · exact List.mem_append_left _ q
      · refine List.mem_append_right _ (Cx.hb_mono (B := ⟨hideAll (s.heap.push emptyDict) (C.own M ++ [D]), [D] ++ B.X⟩) (B' := B) (fun a ha => List.mem_append_right _ ha) _ q)
  have hrd := c3 es.toList (by simpa using hkeys) hpairs rfl
  refine wp_store ok (s := { s with heap := h', toks := t2 + prs.length }) hy e4 (pv := .dict items) ⟨D, es.toList, ep, rfl, hsm, vis_of ho' hDM, RepD.mono hl2 _ hrd⟩ fun h5 t5 e5 => k .next .next _ _ h5 t5 e5 rfl hK
end
end Mine

/-! LayT -/
namespace Mine
open PySem PySem.W PySem.Calls PyProof.Rows
set_option Elab.async false
section
variable {C : Cx} {V : Vars} {M : Owns} {K : Cont}

theorem ET.of_eq {e : Expr} {a b : Bool} (h : ET C V M e a) (q : a = b) : ET C V M e b := q ▸ h
theorem EV.of_eq {e : Expr} {a b : PV} (h : EV C V M e a) (q : a = b) : EV C V M e b := q ▸ h
theorem Bi.of_eq {t : Value → Value → Sem Value} {p q a b : PV} (h : Bi C V M t p q a) (e : a = b) : Bi C V M t p q b := e ▸ h
theorem Bn.of_eq {id : String} {ps : List PV} {a b : PV} (h : Bn C V M id ps a) (e : a = b) : Bn C V M id ps b := e ▸ h
theorem EV.gstr {x s : Str} {t : Tok} {pos : Pos} (hv : C.mg x = some (.str s t)) (hk : C.env.kindOf x = some .globalImplicit) (hd : (x == ("__debug__" : Str)) = false := by decide) : EV C V M (.Name x pos) (.str s) := EV.global hk hv (fun _ _ => ⟨_, rfl⟩) hd
theorem EV.gint {x : Str} {i : Int} {t : Tok} {pos : Pos} (hv : C.mg x = some (.int i t)) (hk : C.env.kindOf x = some .globalImplicit) (hd : (x == ("__debug__" : Str)) = false := by decide) : EV C V M (.Name x pos) (.int i) := EV.global hk hv (fun _ _ => ⟨_, rfl⟩) hd
theorem EV.gref {x : Str} {a : Addr} {pos : Pos} (hv : C.mg x = some (.ref a)) (hk : C.env.kindOf x = some .globalImplicit) (hd : (x == ("__debug__" : Str)) = false := by decide) : EV C V M (.Name x pos) (.val (.ref a)) := EV.global hk hv (fun _ _ => rfl) hd
theorem EV.gat {x : Str} {a : Addr} {pos : Pos} (hv : C.mg x = some (.ref a)) (hk : C.env.kindOf x = some .globalImplicit) (hd : (x == ("__debug__" : Str)) = false := by decide) : EV C V M (.Name x pos) (.at a) := EV.global hk hv (fun _ _ => rfl) hd

/-- a dict of the text, as K holds it -/
def GDict (P : Params) (Kf : List (Addr × Obj)) (a : Addr) (l : List (Str × PV)) : Prop := (a == sysModules) = false ∧ ∃ es n, (∀ mg mb h, Grd P mg mb Kf h → h.get? a = some (dictOf es n)) ∧ ∀ L, RepD P L l es

/-- `x, y = (e, f)`, the stores turned round -/
theorem EX1.assignSwap {x y : Str} {px py tp pos : Pos} {kx : Nat} {e : Expr} {p q : PV} (hx : C.St x) (hy : C.St y) (hv : EV C V M e (.tup [p, q])) (hsw : swapsWithSole [Expr.Tuple [.Name x px, .Name y py] kx tp] e pos.line C.env = pure false)
    (hsw2 : swappedStores [Expr.Tuple [.Name x px, .Name y py] kx tp] e C.env = pure (some [x, y])) (h : K .next ((x, p) :: (y, q) :: V) M) : EX1 C V M (.Assign [.Tuple [.Name x px, .Name y py] kx tp] e pos) K := fun ok B s Q E hE tk k => by
  refine PyProof.Rows.Assign_Tuple_swapped (hv.then ok hE tk fun v h1 t1 k1 e1 p1 r1 => ?_) hsw hsw2
  obtain ⟨a, vs, n, rfl, ea, v0, r, rfl, hr0, v1, r', rfl, hr1, hr2⟩ := r1
  cases hr2
  have hl : LookLe (C.look B M h1) (vis (hideAll h1 (C.own M)) (C.hb ⟨hideAll h1 (C.own M), B.X⟩)) := fun b o e => by
    obtain ⟨z1, z2⟩ := vis_get e
    refine vis_of (hideAll_get _ z1 fun hm => z2 ?_) fun hm => z2 (List.mem_append_right _ hm)
    rcases List.mem_append.mp hm with q | q
    · exact List.mem_append_left _ q
    · rcases List.mem_cons.mp q with q | q
      · exact List.mem_append_right _ (q ▸ List.mem_cons_self)
      · split at q
        · exact List.mem_append_right _ (List.mem_cons_of_mem _ (List.mem_append_left _ q))
        · cases q
  have hT : h1.IsTuple a #[v0, v1] := ⟨_, (vis_get ea).1, rfl, n, rfl⟩
  refine wpAny_unpackItems_tuple (items := #[v0, v1]) ok.hh hT fun h₃ hx₃ => ?_
  have up₃ : Keep h1 h₃ := fun b o x => hx₃ b o (Nat.ne_of_lt (Heap.lt_size x)) x
  have e3 := (e1.rebase).kept up₃
  show wpAny _ C.A (do holding [v0] (bindName C.env y v1); do holding [] (bindName C.env x v0); pure ()) _ _ _
  refine wpAny_bind (wpAny_holding (wpAny_bindName (wpAny_tk (s := { s with heap := h₃, toks := t1 }) p1 (wp_store ok (s := { s with heap := h₃, toks := t1 }) hy e3 ((hr1.get hl).get e3.base_look) fun h4 t4 e4 p4 => ?_))))
  refine wpAny_bind (wpAny_holding (wpAny_bindName (wpAny_tk (s := { s with heap := h4, toks := t4 }) p4 (wp_store ok (s := { s with heap := h4, toks := t4 }) hx e4 ((hr0.get hl).get e4.base_look) fun h5 t5 e5 p5 => ?_))))
  exact wpAny_pure (k .next .next _ _ h5 t5 (e1.back e5) rfl h)

theorem Ty.gdict {a : Addr} {l : List (Str × PV)} (hd : GDict C.w.params C.K a l) : Ty C M (.at a) "dict" := fun B V s v hE r => by
  cases r
  obtain ⟨es, n, g, _⟩ := hd.2
  have q := g _ _ _ hE.G
  exact ⟨⟨_, q, rfl⟩, fun b z => by cases z; exact ⟨_, q, rfl⟩⟩
theorem Bi.notIn_gdict {a : Addr} {l : List (Str × PV)} {x : Str} (hd : GDict C.w.params C.K a l) : Bi C V M (compareOp .NotIn) (.str x) (.at a) (.bool (!(l.lookup x).isSome)) := fun ok B _ _ s Q E hE tk r1 r2 k => by
  obtain ⟨t, rfl⟩ := r1; cases r2
  obtain ⟨hs, hd⟩ := hd
  obtain ⟨es, n, g, r⟩ := hd
  have hm := dict_map (prog := C.prog) (g _ _ _ hE.G) (r (fun _ => none))
  have z := (r (fun _ => none)).kvs x
  refine wpAny_notIn_of (k := x) (by simp [PySem.strKind, Value.isStrOf]) hs hm (k _ s.heap (s.toks + 1) .rfl ?_)
  show Value.bool _ = Value.bool _
  congr 2
  cases hx : l.lookup x with
  | none => rw [hx] at z; simp [findBy, z]
  | some p => rw [hx] at z; obtain ⟨e, h1, _⟩ := z; simp [findBy, h1]
theorem Bn.get2_gdict {a : Addr} {l : List (Str × PV)} {x : Str} {d : PV} (hd : GDict C.w.params C.K a l) : Bn C V M "dict.get" [.at a, .str x, d] ((l.lookup x).getD d) := fun ok B vs s Q E hE tk r k => by
  obtain ⟨v, r', rfl, rfl, v', r'', rfl, ⟨u, rfl⟩, v3, r3, rfl, rd, h2⟩ := r; cases h2
  obtain ⟨hs, hd⟩ := hd
  obtain ⟨es, n, g, r⟩ := hd
  have hm := dict_map (prog := C.prog) (g _ _ _ hE.G) (r (C.look B M s.heap))
  have z := (r (C.look B M s.heap)).kvs x
  refine call_meetsIn F.slot_dict_get hm.typeIs F.entry_dict_get (F.args_dict_get_3 _ _ _) (meets_dict_get_default (PySem.strKind C.prog C.w) a (k := x) (by simp [PySem.strKind, Value.isStrOf]) hs v3) ⟨_, hm, k _ s.heap (s.toks + 1) .rfl ?_⟩
  cases hx : l.lookup x with
  | none => rw [hx] at z; simpa [findBy, z] using rd
  | some p => rw [hx] at z; obtain ⟨e, h1, h2⟩ := z; simpa [findBy, h1] using h2
theorem EV.neg {e : Expr} {pos : Pos} {i : Int} (h : EV C V M e (.int i)) : EV C V M (.UnaryOp .USub e pos) (.int (-i)) := fun ok B s Q E hE tk k => by
  refine wpAny_UnaryOp (h.then ok hE tk fun v h1 t1 k1 e1 p1 r1 => ?_)
  obtain ⟨t, rfl⟩ := r1
  exact PyProof.Rows.neg_int (k _ h1 (t1 + 1) k1 ⟨_, rfl⟩)
abbrev vat (V : Vars) (x : Str) : Option PV := List.lookup x V
theorem lk {V : Vars} {x y : Str} {p q : PV} (h : V.lookup y = some p) (n : (y == x) = false := by decide) : List.lookup y ((x, q) :: V) = some p := by
  rw [List.lookup_cons, n]; exact h
end
end Mine

/-! LayU -/
namespace Mine
open PySem PySem.W PySem.Calls PyProof.Rows PySem.Builtin PySem.Builtin.Re
set_option Elab.async false
set_option maxRecDepth 100000

theorem plainAttrs_pat : PlainAttrs "re.Pattern" :=
  ⟨⟨"object.__getattribute__", by rw [typeLookup_type, builtinLookup_eq_fast]; kernel_rfl, by decide +kernel⟩, by rw [typeLookup_type, builtinLookup_eq_fast]; kernel_rfl⟩
theorem slot_pat_search : Slot "re.Pattern" "search" "re.Pattern.search" :=
  .of (owner := "re.Pattern") (n := "search") (by rw [typeLookup_type, builtinLookup_eq_fast]; kernel_rfl) (by decide +kernel) (by decide +kernel) (by decide +kernel)
    (by first | exact .inl (by decide +kernel) | exact .inr (by decide +kernel)) (by rw [isSubtype_type]; kernel_rfl)
theorem type_pat_search : typeOf (.builtin "re.Pattern.search") = pure (.type "method_descriptor") := by show builtinType _ = _; rw [builtinType_eq_fast]; kernel_rfl
theorem entry_pat_search : entryFor table "re.Pattern.search" = some Builtin.«re.Pattern.search» := entryFor_of_tree (by kernel_rfl)
theorem args_pat_search (a b : Value) : argsOk "re.Pattern.search" ⟨[a, b], []⟩ := by unfold argsOk; kernel_rfl
theorem mth_search : Mth "re.Pattern" "search" "re.Pattern.search" := ⟨plainAttrs_pat, slot_pat_search, type_pat_search⟩

/-- no sign of the text is let in by the pattern's first set -/
def NoneIn (code : Array Nat) (text : List Nat) : Prop := ∀ c ∈ text, ∀ seen, ∃ seen', Sre.inSet code c code.size 5 true seen = .ok (false, seen')
theorem admitted_none {m : Sre.M} (h : ∀ s, s < m.lim → ∀ seen, ∃ seen', Sre.inSet m.code (m.text.getD s 0) m.code.size 5 true seen = .ok (false, seen')) : ∀ (fuel s : Nat) (seen : Sre.Seen), ∃ seen', m.admitted fuel s seen = .ok (none, seen')
  | 0, _, seen => ⟨seen, rfl⟩
  | fuel + 1, s, seen => by
    unfold Sre.M.admitted
    by_cases q : s ≥ m.lim
    · rw [if_pos q]; exact ⟨seen, rfl⟩
    · rw [if_neg q]
      obtain ⟨seen', e⟩ := h s (Nat.lt_of_not_le q) seen
      rw [e]
      exact admitted_none h fuel (s + 1) seen'
theorem from_none {m : Sre.M} (hc : m.hasFirstSet = true) (hf : m.frames = []) (ho : m.outcome = none) (h : ∀ s, s < m.lim → ∀ seen, ∃ seen', Sre.inSet m.code (m.text.getD s 0) m.code.size 5 true seen = .ok (false, seen')) (s : Nat) (b : Bool) :
    (m.attemptFrom s b).answer = some false ∧ (m.attemptFrom s b).frames = [] ∧ (m.attemptFrom s b).outcome = none := by
  unfold Sre.M.attemptFrom
  rw [hc]
  simp only [Bool.not_true, Bool.false_eq_true, if_false]
  obtain ⟨seen', e⟩ := admitted_none h (m.lim + 1 - s) s m.seen
  rw [e]
  exact ⟨rfl, hf, ho⟩
def firstSet (code : Array Nat) : Bool := (match Sre.ops[code.getD 0 0]? with | some .INFO => true | _ => false) && code.getD 2 0 == 4
theorem search_none {code : Array Nat} {text : List Nat} {lim : Nat} (hlim : lim = text.length) (hc : firstSet code = true) (hn : NoneIn code text) :
    (Sre.forSearch code text.toArray 0 0 lim false).answer = some false ∧ (Sre.forSearch code text.toArray 0 0 lim false).frames = [] ∧ (Sre.forSearch code text.toArray 0 0 lim false).outcome = none := by
  subst hlim
  unfold Sre.forSearch
  dsimp only
  split
  · exact ⟨rfl, rfl, rfl⟩
  · refine from_none ?_ rfl rfl (fun s hs seen => ?_) 0 true
    · exact hc
    have hs' : s < text.length := hs
    have : text.toArray.getD s 0 = text[s] := by simp [hs']
    have hm := hn text[s] (List.getElem_mem hs') seen
    rw [← this] at hm
    exact hm
theorem drive_none {M : Model} {A : Around} {E : Value → Shared → Prop} {s : Shared} {m : Sre.M} {Q : Option Sre.M → Shared → Prop} (h1 : m.answer = some false) (h2 : m.frames = []) (h3 : m.outcome = none) (hq : Q none s) : wpAny M A (reRunToEnd m) Q E s := by
  unfold reRunToEnd
  have hd : reDrive (2 ^ 64) m = pure { m with outcome := some .failed } := by
    show reDrive ((2 ^ 64 - 1) + 1) m = _
    unfold reDrive
    have hs : m.step = { m with outcome := some .failed } := by
      unfold Sre.M.step
      rw [h3, h1, h2]; rfl
    have hr : m.runFor reTurnSteps = { m with outcome := some .failed } := by
      show m.runFor 4 = _
      unfold Sre.M.runFor
      rw [h3]
      simp only [Option.isSome_none, Bool.false_eq_true, if_false]
      rw [hs]
      rfl
    simp only [hr]
    rfl
  rw [hd]
  refine wpAny_bind (wpAny_pure ?_)
  have key : ∀ (p : Nat → Bool) (l : List Nat) (Q' : PUnit → Shared → Prop), Q' PUnit.unit s → wpAny M A (forIn l PUnit.unit fun (i : Nat) (_ : PUnit) => if p i = true then (rule (Sre.names.getD i "") >>= fun _ => (pure (ForInStep.yield PUnit.unit) : Sem (ForInStep PUnit))) else (pure (ForInStep.yield PUnit.unit) : Sem (ForInStep PUnit))) Q' E s := by
    intro p l
    induction l with
    | nil => intro Q' h; exact wpAny_pure h
    | cons a l ih =>
      intro Q' h
      rw [List.forIn_cons]
      refine wpAny_bind ?_
      split
      · exact wpAny_bind (wpAny_rule (wpAny_pure (ih Q' h)))
      · exact wpAny_pure (ih Q' h)
  refine wpAny_bind (key (fun i => m.seen.has i) _ _ ?_)
  exact wpAny_pure hq

/-- a compiled pattern, as K holds it -/
structure PatAt (Kf : List (Addr × Obj)) (a tp : Addr) (code : List Nat) : Prop where
  pat : ∃ p f f2 u u2, (a, ({ cls := .type "re.Pattern", data := .fields #[.str p f, .int 32 f2, .int 0 u, .none, .none, .ref tp, .int 0 u2] } : Obj)) ∈ Kf
  tup : ∃ cs n, (tp, ({ cls := .type "tuple", data := .seq cs n } : Obj)) ∈ Kf ∧ (cs.map reRawOf).map (·.toNat) = code.toArray
section
variable {C : Cx} {V : Vars} {M : Owns} {K : Cont}
theorem Ty.pat {a tp : Addr} {code : List Nat} (hp : PatAt C.K a tp code) : Ty C M (.at a) "re.Pattern" := fun B V s v hE r => by
  cases r
  obtain ⟨p, f, f2, u, u2, hk⟩ := hp.pat
  have q := hE.G.k _ hk
  exact ⟨⟨_, q, rfl⟩, fun b z => by cases z; exact ⟨_, q, rfl⟩⟩
theorem Bn.search_none {a tp : Addr} {code : List Nat} {x : Str} (hp : PatAt C.K a tp code) (hc : firstSet code.toArray = true) (hn : NoneIn code.toArray x.cps.toList) (hz : x.length < 2 ^ 62) : Bn C V M "re.Pattern.search" [.at a, .str x] .none := fun ok B vs s Q E hE tk r k => by
  obtain ⟨v, r', rfl, rfl, v', r'', rfl, ⟨u, rfl⟩, h2⟩ := r; cases h2
  have hT := ((Ty.pat (M := M) hp) B V s (.ref a) hE rfl).1
  obtain ⟨p, f, f2, u1, u2, hk⟩ := hp.pat
  obtain ⟨cs, n, hk2, hcode⟩ := hp.tup
  have q := hE.G.k _ hk
  have q2 := hE.G.k _ hk2
  refine wpAny_call_entry slot_pat_search hT entry_pat_search ?_ (args_pat_search _ _)
  unfold Builtin.«re.Pattern.search»
  refine wpAny_bind ?_
  unfold reTarget
  refine wpAny_bind (wpAny_of_eq (show reNamed "re.Pattern.search" "search" ["string", "pos", "endpos"] 1 [.str x u] [] = pure [some (.str x u), none, none] from rfl) ?_)
  refine wpAny_bind (wpAny_pure (wpAny_bind (wpAny_pure ?_)))
  refine wpAny_bind (wpAny_fieldsOf q rfl ?_)
  refine wpAny_bind (wpAny_of_eq (show reTextOf (.str x u) = pure (x.cps, 0) from rfl) ?_)
  dsimp only
  rw [if_neg (by simp [reRawNat]), if_neg (by simp [reRawNat])]
  refine wpAny_bind (wpAny_of_eq (show reNoCollectionInside (.str x u) 0 = pure () from rfl) ?_)
  have hit : reRawItems (.ref tp) = (seqItems? (.ref tp) >>= fun r => pure ((r.getD #[]).map reRawOf)) := rfl
  show wpAny _ _ (reRawItems (.ref tp) >>= _) _ _ s
  rw [hit]
  refine wpAny_bind (wpAny_bind (wpAny_seqItems q2 rfl (wpAny_pure ?_)))
  refine wpAny_pure ?_
  have hlim : min ((2 ^ 63 - 1 : Int)).toNat x.cps.size = x.cps.toList.length := by
    have : x.cps.size = x.length := rfl
    rw [Nat.min_eq_right (by rw [this]; omega)]; simp
  have hcd : (((some cs).getD #[]).map reRawOf).map (fun x => x.toNat) = code.toArray := hcode
  have hm := Mine.search_none (code := code.toArray) (text := x.cps.toList) (lim := min ((2 ^ 63 - 1 : Int)).toNat x.cps.size) hlim hc hn
  obtain ⟨m1, m2, m3⟩ := hm
  unfold reAnswer
  refine wpAny_bind ?_
  dsimp only
  rw [hcd]
  have ht : x.cps.toList.toArray = x.cps := by simp
  rw [ht] at m1 m2 m3
  refine drive_none m1 m2 m3 ?_
  exact wpAny_pure ⟨_, rfl, k .none s.heap s.toks .rfl rfl⟩
end
end Mine

/-! StrL -/
namespace Mine
open PySem PySem.Builtin PySem.Builtin.Str PySem.StrLaws
set_option Elab.async false

theorem at_iff {x y : Str} {i : Nat} : At x y x.length i ↔ y.cps.toList <+: x.cps.toList.drop i ∧ i ≤ x.length := by
  unfold At
  rw [subAt_eq, beq_iff_eq]
  have hx : x.length = x.cps.toList.length := by simp [Str.length]
  have hy : y.length = y.cps.toList.length := by simp [Str.length]
  constructor
  · rintro ⟨h1, h2⟩
    exact ⟨⟨(x.cps.toList.drop i).drop y.length, by rw [← h2]; exact List.take_append_drop _ _⟩, by omega⟩
  · rintro ⟨⟨t, h⟩, h2⟩
    have hl := congrArg List.length h
    rw [List.length_append, List.length_drop] at hl
    refine ⟨by omega, ?_⟩
    rw [← h, hy, List.take_left]

/-- the scan, told by its steps -/
def gr (P : Nat → Bool) (w : Nat) : (n a free : Nat) → List Nat
  | 0, _, _ => []
  | n + 1, a, free => if free ≤ a ∧ P a = true then a :: gr P w n (a + 1) (a + w) else gr P w n (a + 1) free
theorem occ_gr (s sub : Str) (hi limit : Nat) : ∀ (n a free : Nat) (acc : Array Nat), acc.size + n ≤ limit →
    (forIn (List.range' a n) (acc, free) (occBody s sub hi limit)).run.fst.toList = acc.toList ++ gr (fun i => decide (i + sub.length ≤ hi) && subAt s sub i) sub.length n a free
  | 0, a, free, acc, _ => by simp [gr]
  | n + 1, a, free, acc, h => by
    rw [List.range'_succ, List.forIn_cons]
    unfold occBody gr
    by_cases q : ((acc.size < limit ∧ free ≤ a) ∧ a + sub.length ≤ hi) ∧ subAt s sub a = true
    · rw [if_pos q]
      have q2 : free ≤ a ∧ (decide (a + sub.length ≤ hi) && subAt s sub a) = true := ⟨q.1.1.2, by rw [q.2]; simp [q.1.2]⟩
      rw [if_pos q2]
      have ih := occ_gr s sub hi limit n (a + 1) (a + sub.length) (acc.push a) (by rw [Array.size_push]; omega)
      simp only [pure_bind]
      exact ih.trans (by rw [Array.toList_push]; simp)
    · rw [if_neg q]
      have q2 : ¬(free ≤ a ∧ (decide (a + sub.length ≤ hi) && subAt s sub a) = true) := fun z => by
        have z2 := z.2
        rw [Bool.and_eq_true, decide_eq_true_eq] at z2
        exact q ⟨⟨⟨by omega, z.1⟩, z2.1⟩, z2.2⟩
      rw [if_neg q2]
      have ih := occ_gr s sub hi limit n (a + 1) free acc (by omega)
      simp only [pure_bind]
      exact ih
theorem gr_skip {P : Nat → Bool} {w : Nat} : ∀ (k n a free : Nat), (∀ i, a ≤ i → i < a + k → ¬(free ≤ i ∧ P i = true)) → gr P w (n + k) a free = gr P w n (a + k) free
  | 0, n, a, free, _ => rfl
  | k + 1, n, a, free, h => by
    rw [show gr P w (n + (k + 1)) a free = if free ≤ a ∧ P a = true then a :: gr P w (n + k) (a + 1) (a + w) else gr P w (n + k) (a + 1) free from rfl, if_neg (h a (Nat.le_refl _) (by omega))]
    rw [gr_skip k n (a + 1) free fun i h1 h2 => h i (by omega) (by omega)]
    rw [show a + 1 + k = a + (k + 1) by omega]
theorem gr_take {P : Nat → Bool} {w : Nat} (n a free : Nat) (hf : free ≤ a) (h : P a = true) : gr P w (n + 1) a free = a :: gr P w n (a + 1) (a + w) := by
  rw [gr, if_pos ⟨hf, h⟩]

/-- pieces with a cut between -/
def joinL (y : List Nat) : List (List Nat) → List Nat
  | [] => []
  | [p] => p
  | p :: q :: r => p ++ (y ++ joinL y (q :: r))
def cutsOf (w : Nat) : Nat → List (List Nat) → List Nat
  | _, [] => []
  | _, [_] => []
  | c, p :: q :: r => (c + p.length) :: cutsOf w (c + p.length + w) (q :: r)
/-- the cut stands nowhere else -/
def Clean (y : List Nat) : List (List Nat) → Prop
  | [] => False
  | [p] => ∀ j, ¬ y <+: p.drop j
  | p :: q :: r => (∀ j, j < p.length → ¬ y <+: (p ++ (y ++ joinL y (q :: r))).drop j) ∧ Clean y (q :: r)
theorem gr_clean {x y : Str} (hy : y.cps.toList ≠ []) : ∀ (parts : List (List Nat)) (c n : Nat), Clean y.cps.toList parts → c ≤ x.length → x.cps.toList.drop c = joinL y.cps.toList parts → n + c = x.length + 1 →
    gr (fun i => decide (i + y.length ≤ x.length) && subAt x y i) y.length n c c = cutsOf y.length c parts
  | [], _, _, h, _, _, _ => h.elim
  | [p], c, n, h, hc, e, hn => by
    have key : ∀ i, c ≤ i → ¬((fun i => decide (i + y.length ≤ x.length) && subAt x y i) i = true) := fun i hi z => by
      have z' : At x y x.length i := by simpa [At] using z
      obtain ⟨z1, z2⟩ := at_iff.mp z'
      refine h (i - c) ?_
      have : p = x.cps.toList.drop c := e.symm
      rw [this, List.drop_drop, show c + (i - c) = i by omega]
      exact z1
    have := gr_skip (P := fun i => decide (i + y.length ≤ x.length) && subAt x y i) (w := y.length) n 0 c c fun i h1 _ z => key i h1 z.2
    rw [Nat.zero_add] at this
    rw [this]
    rfl
  | p :: q :: r, c, n, h, hc, e, hn => by
    obtain ⟨h1, h2⟩ := h
    have hxl : x.cps.toList.length = x.length := by simp [Str.length]
    have hyl : y.cps.toList.length = y.length := by simp [Str.length]
    have hylp : 0 < y.length := by rw [← hyl]; exact List.length_pos_iff.mpr hy
    have e' : x.cps.toList.drop c = p ++ (y.cps.toList ++ joinL y.cps.toList (q :: r)) := e
    have hlen := congrArg List.length e'
    rw [List.length_drop, List.length_append, List.length_append, hxl, hyl] at hlen
    have s1 := gr_skip (P := fun i => decide (i + y.length ≤ x.length) && subAt x y i) (w := y.length) p.length (n - p.length) c c fun i i1 i2 z => by
      have z' : At x y x.length i := by simpa [At] using z.2
      obtain ⟨z1, z2⟩ := at_iff.mp z'
      refine h1 (i - c) (by omega) ?_
      rw [← e', List.drop_drop, show c + (i - c) = i by omega]
      exact z1
    rw [show n - p.length + p.length = n by omega] at s1
    rw [s1]
    have hd : x.cps.toList.drop (c + p.length) = y.cps.toList ++ joinL y.cps.toList (q :: r) := by
      rw [← List.drop_drop, e', List.drop_left]
    have hat : (fun i => decide (i + y.length ≤ x.length) && subAt x y i) (c + p.length) = true := by
      have : At x y x.length (c + p.length) := at_iff.mpr ⟨by rw [hd]; exact List.prefix_append _ _, by omega⟩
      simpa [At] using this
    -- the cut itself, then what it covers
    have : ∃ m, n - p.length = (m + (y.length - 1)) + 1 ∧ m + (c + p.length + y.length) = x.length + 1 := ⟨n - p.length - y.length, by omega, by omega⟩
    obtain ⟨m, hm1, hm2⟩ := this
    rw [hm1, gr_take _ _ _ (Nat.le_add_right _ _) hat]
    rw [gr_skip (y.length - 1) m (c + p.length + 1) (c + p.length + y.length) fun i i1 i2 z => by omega]
    rw [show c + p.length + 1 + (y.length - 1) = c + p.length + y.length by omega]
    rw [gr_clean hy (q :: r) (c + p.length + y.length) m h2 (by omega) (by rw [← List.drop_drop, hd, ← hyl, List.drop_left]) hm2]
    rfl
theorem occ_clean {x y : Str} (hy : y.cps.toList ≠ []) {parts : List (List Nat)} (h : Clean y.cps.toList parts) (e : x.cps.toList = joinL y.cps.toList parts) : occurrences x y 0 x.length (x.length + 1) = cutsOf y.length 0 parts := by
  rw [occ_eq]
  have := occ_gr x y x.length (x.length + 1) (x.length + 1) 0 0 #[] (by simp)
  rw [show x.length + 1 - 0 = x.length + 1 from rfl, this]
  simp only [List.nil_append]
  exact gr_clean hy parts 0 (x.length + 1) h (Nat.zero_le _) (by rw [List.drop_zero]; exact e) rfl
abbrev ofL (l : List Nat) : Str := ⟨l.toArray⟩
theorem sub_toL (x : Str) (a b : Nat) : (strSub x a b).cps.toList = (x.cps.toList.drop a).take (b - a) := by
  simp [strSub, List.take_drop]
theorem parts_clean {x y : Str} : ∀ (parts : List (List Nat)) (c : Nat), parts ≠ [] → x.cps.toList.drop c = joinL y.cps.toList parts → partsFrom x y.length c (cutsOf y.length c parts) = parts.map ofL
  | [], _, h, _ => absurd rfl h
  | [p], c, _, e => by
    show [strSub x c x.length] = [ofL p]
    congr 1
    apply Str.ext'
    apply Array.toList_inj.mp
    have e' : x.cps.toList.drop c = p := e
    rw [sub_toL, e']
    have : p.length = x.length - c := by rw [← e', List.length_drop]; simp [Str.length]
    rw [← this, List.take_length]
  | p :: q :: r, c, _, e => by
    have hyl : y.cps.toList.length = y.length := by simp [Str.length]
    have e' : x.cps.toList.drop c = p ++ (y.cps.toList ++ joinL y.cps.toList (q :: r)) := e
    show strSub x c (c + p.length) :: partsFrom x y.length (c + p.length + y.length) (cutsOf y.length (c + p.length + y.length) (q :: r)) = ofL p :: (q :: r).map ofL
    rw [parts_clean (q :: r) (c + p.length + y.length) (by simp) (by
      rw [← List.drop_drop, ← List.drop_drop, e', List.drop_left, ← hyl, List.drop_left])]
    congr 1
    apply Str.ext'
    apply Array.toList_inj.mp
    rw [sub_toL, e', show c + p.length - c = p.length by omega, List.take_left]
theorem between_clean {x y : Str} (hy : y.cps.toList ≠ []) {parts : List (List Nat)} (h : Clean y.cps.toList parts) (e : x.cps.toList = joinL y.cps.toList parts) :
    partsBetween x (occurrences x y 0 x.length (x.length + 1)) y.length = parts.map ofL := by
  have hp : parts ≠ [] := by rintro rfl; exact h
  rw [occ_clean hy h e, partsBetween_eq, parts_clean parts 0 hp (by rw [List.drop_zero]; exact e)]
theorem kind_pos (x : Str) : ¬ Str.strKind x < 1 := by
  unfold Str.strKind; split
  · decide
  · split <;> decide
theorem split_clean {x y : Str} (hy : y.cps.toList ≠ []) (hk : Str.strKind y = 1) {parts : List (List Nat)} (h : Clean y.cps.toList parts) (e : x.cps.toList = joinL y.cps.toList parts) : Txt.split x y = parts.map ofL := by
  have hx : ∀ p, parts = [p] → [x] = parts.map ofL := fun p q => by
    rw [q] at e ⊢
    show [x] = [ofL p]
    congr 1
    apply Str.ext'
    apply Array.toList_inj.mp
    exact e
  unfold Txt.split
  rw [hk, decide_eq_false (kind_pos x), Bool.or_false]
  match parts, h, e, hx with
  | [], h, _, _ => exact h.elim
  | [p], h, e, hx =>
    rw [occ_clean hy h e]
    split
    · exact hx p rfl
    · exact hx p rfl
  | p :: q :: r, h, e, _ =>
    have hlen : ¬ x.length < y.length := by
      have := congrArg List.length e
      have e2 : joinL y.cps.toList (p :: q :: r) = p ++ (y.cps.toList ++ joinL y.cps.toList (q :: r)) := rfl
      rw [e2, List.length_append, List.length_append] at this
      simp [Str.length] at this ⊢
      omega
    rw [decide_eq_false hlen, if_neg (by decide), if_neg (by rw [occ_clean hy h e]; simp [cutsOf]), between_clean hy h e]
theorem glued_ofL (z : List Nat) : ∀ (parts : List (List Nat)), (glued (ofL z) (parts.map ofL)).cps.toList = joinL z parts
  | [] => rfl
  | [p] => rfl
  | p :: q :: r => by
    have key : ∀ (l : List (List Nat)) (acc : Array Nat), (List.foldl (fun (acc : Array Nat) (p : Str) => acc ++ z.toArray ++ p.cps) acc (l.map ofL)).toList = acc.toList ++ l.flatMap (fun p => z ++ p) := by
      intro l
      induction l with
      | nil => intro acc; simp
      | cons a l ih => intro acc; rw [List.map_cons, List.foldl_cons, ih]; simp
    have key2 : ∀ (q : List Nat) (r : List (List Nat)), q ++ r.flatMap (fun p => z ++ p) = joinL z (q :: r) := by
      intro q r
      induction r generalizing q with
      | nil => simp [joinL]
      | cons a r ih => rw [List.flatMap_cons, joinL, ← ih a]; simp
    show (List.foldl (fun (acc : Array Nat) (p : Str) => acc ++ z.toArray ++ p.cps) p.toArray ((q :: r).map ofL)).toList = _
    rw [key, key2]
theorem replace_clean {x y : Str} (hy : y.cps.toList ≠ []) {parts : List (List Nat)} (h : Clean y.cps.toList parts) (e : x.cps.toList = joinL y.cps.toList parts) (z : List Nat) : (Txt.replace x y (ofL z)).cps.toList = joinL z parts := by
  have hyl : (y.length == 0) = false := by
    have : y.length ≠ 0 := fun q => hy (List.length_eq_zero_iff.mp (by simpa [Str.length] using q))
    simpa using this
  unfold Txt.replace
  rw [hyl, Bool.false_and, Bool.or_false, between_clean hy h e]
  match parts, h, e with
  | [], h, _ => exact h.elim
  | [p], h, e =>
    rw [occ_clean hy h e, if_pos (by rfl)]
    exact e
  | p :: q :: r, h, e =>
    rw [occ_clean hy h e, if_neg (by simp [cutsOf])]
    exact glued_ofL z _
end Mine

/-! StrM -/
namespace Mine
open PySem PySem.Builtin PySem.Builtin.Str PySem.StrLaws
set_option Elab.async false

/-- what _ellipsis_match does with the middle pieces -/
def emLoop (got : Str) (e : Int) : List Str → Int → Bool
  | [], _ => true
  | w :: ws, sp => if findTo got w sp e < 0 then false else emLoop got e ws (findTo got w sp e + w.length)
/-- a sign: some letters, no space, no dot -/
structure Sg (s : List Nat) : Prop where
  ne : s ≠ []
  sp : 32 ∉ s
  dot : 46 ∉ s
def tokL (s : List Nat) : List Nat := 32 :: (s ++ [32])
def encL (ss : List (List Nat)) : List Nat := ss.flatMap tokL
abbrev dots : List Nat := [46, 46, 46]
abbrev gap : List Nat := [32, 46, 46, 46, 32]

theorem prefix_sign {s t a b : List Nat} (hs : 32 ∉ s) (ht : 32 ∉ t) (h : s ++ 32 :: a <+: t ++ 32 :: b) : s = t := by
  induction s generalizing t with
  | nil =>
    cases t with
    | nil => rfl
    | cons c t =>
      obtain ⟨u, e⟩ := h
      simp at e
      exact absurd (e.1 ▸ List.mem_cons_self) ht
  | cons c s ih =>
    cases t with
    | nil =>
      obtain ⟨u, e⟩ := h
      simp at e
      exact absurd (e.1.symm ▸ List.mem_cons_self) hs
    | cons d t =>
      obtain ⟨u, e⟩ := h
      simp at e
      obtain ⟨rfl, e⟩ := e
      rw [ih (t := t) (fun q => hs (List.mem_cons_of_mem _ q)) (fun q => ht (List.mem_cons_of_mem _ q)) ⟨u, by simpa using e⟩]
theorem drop_past {α : Type} {a b : List α} {n : Nat} (h : a.length ≤ n) : (a ++ b).drop n = b.drop (n - a.length) := by
  rw [List.drop_append, List.drop_eq_nil_of_le h, List.nil_append]
theorem tok_len {s : List Nat} : (tokL s).length = s.length + 2 := by simp [tokL]
theorem encL_cons {s : List Nat} {ss : List (List Nat)} : encL (s :: ss) = tokL s ++ encL ss := rfl
theorem enc_head {ss : List (List Nat)} : encL ss = [] ∨ ∃ r, encL ss = 32 :: r := by
  cases ss with
  | nil => exact .inl rfl
  | cons s ss => exact .inr ⟨_, rfl⟩
theorem tok_at {s t : List Nat} {ts : List (List Nat)} (hs : Sg s) (ht : Sg t) {i : Nat} : tokL s <+: (tokL t ++ encL ts).drop i ↔ (i = 0 ∧ s = t) ∨ ((tokL t).length ≤ i ∧ tokL s <+: (encL ts).drop (i - (tokL t).length)) := by
  constructor
  · intro h
    by_cases h1 : (tokL t).length ≤ i
    · refine .inr ⟨h1, ?_⟩
      rw [drop_past h1] at h
      exact h
    · rw [tok_len] at h1
      cases i with
      | zero =>
        refine .inl ⟨rfl, ?_⟩
        obtain ⟨u, e⟩ := h
        have e' : s ++ 32 :: u = t ++ 32 :: encL ts := by simpa [tokL] using e
        exact prefix_sign hs.sp ht.sp ⟨[], by rw [List.append_nil]; exact e'⟩
      | succ i =>
        exfalso
        obtain ⟨u, e⟩ := h
        have e' : 32 :: (s ++ [32]) ++ u = (t ++ (32 :: encL ts)).drop i := by simpa [tokL] using e
        by_cases h2 : i < t.length
        · rw [List.drop_append_of_le_length (Nat.le_of_lt h2), List.drop_eq_getElem_cons h2] at e'
          have e2 := congrArg List.head? e'
          simp only [List.cons_append, List.head?_cons, Option.some.injEq] at e2
          exact ht.sp (e2 ▸ List.getElem_mem h2)
        · have : i = t.length := by omega
          subst this
          rw [List.drop_left] at e'
          simp at e'
          obtain ⟨c, s', rfl⟩ : ∃ c s', s = c :: s' := by cases s with | nil => exact absurd rfl hs.ne | cons c s' => exact ⟨c, s', rfl⟩
          rcases enc_head (ss := ts) with q | ⟨r, q⟩
          · rw [q] at e'; cases e'
          · rw [q] at e'
            simp at e'
            exact hs.sp (e'.1 ▸ List.mem_cons_self)
  · rintro (⟨rfl, rfl⟩ | ⟨h1, h2⟩)
    · exact List.prefix_append _ _
    · rw [drop_past h1]; exact h2

theorem tok_ne {s : List Nat} : tokL s ≠ [] := by simp [tokL]
/-- the middle pieces of a pattern for the signs ss -/
def midL (ss : List (List Nat)) : List Str := if ss = [] then [ofL []] else ss.map fun s => ofL (tokL s)

theorem find_eq {x y : Str} {lo : Nat} (hlo : lo ≤ x.length) : findTo x y lo x.length = (match occurrences x y lo x.length 1 with | k :: _ => (k : Int) | [] => -1) := by
  unfold findTo
  have h1 : fromIndex x.length (lo : Int) = lo := by unfold fromIndex; rw [if_neg (by omega)]; omega
  have h2 : min (fromIndex x.length (x.length : Int)) x.length = x.length := by unfold fromIndex; rw [if_neg (by omega)]; omega
  rw [h1, h2]
  all_goals (cases occurrences x y lo x.length 1 <;> rfl)
theorem find_none {x y : Str} {lo : Nat} (hlo : lo ≤ x.length) (h : ∀ i, lo ≤ i → ¬ At x y x.length i) : findTo x y lo x.length = -1 := by
  rw [find_eq hlo]
  rcases occ_head_from x y lo 1 (Nat.le_refl _) with ⟨e, _⟩ | ⟨i, r, _, h1, h2, _⟩
  · rw [e]
  · exact absurd h2 (h i h1)
theorem find_some {x y : Str} {lo k : Nat} (hlo : lo ≤ x.length) (h1 : lo ≤ k) (h2 : At x y x.length k) (h3 : ∀ i, lo ≤ i → i < k → ¬ At x y x.length i) : findTo x y lo x.length = k := by
  rw [find_eq hlo]
  rcases occ_head_from x y lo 1 (Nat.le_refl _) with ⟨_, h⟩ | ⟨i, r, e, g1, g2, g3⟩
  · exact absurd h2 (h k h1)
  · rw [e]
    have : i = k := by
      rcases Nat.lt_trichotomy i k with q | q | q
      · exact absurd g2 (h3 i g1 q)
      · exact q
      · exact absurd h2 (g3 k h1 q)
    rw [this]
/-- from two places alike, if nothing stands between -/
theorem find_skip {x y : Str} {lo hi : Nat} (hl : lo ≤ hi) (hh : hi ≤ x.length) (h : ∀ i, lo ≤ i → i < hi → ¬ At x y x.length i) : findTo x y lo x.length = findTo x y hi x.length := by
  rcases occ_head_from x y hi 1 (Nat.le_refl _) with ⟨_, h'⟩ | ⟨i, r, e, g1, g2, g3⟩
  · rw [find_none (Nat.le_trans hl hh) (fun i hi' z => by
      by_cases q : i < hi
      · exact h i hi' q z
      · exact h' i (by omega) z), find_none hh h']
  · rw [find_some hh g1 g2 g3, find_some (Nat.le_trans hl hh) (Nat.le_trans hl g1) g2 fun j j1 j2 z => by
      by_cases q : j < hi
      · exact h j j1 q z
      · exact g3 j (by omega) j2 z]
theorem at_pre {pre l : List Nat} {y : Str} {i : Nat} (hi : pre.length ≤ i) (hil : i ≤ (pre ++ l).length) : At (ofL (pre ++ l)) y (ofL (pre ++ l)).length i ↔ y.cps.toList <+: l.drop (i - pre.length) := by
  rw [at_iff]
  have : (ofL (pre ++ l)).cps.toList = pre ++ l := rfl
  rw [this, drop_past hi]
  constructor
  · exact fun h => h.1
  · exact fun h => ⟨h, by simpa [Str.length] using hil⟩
theorem at_le {x y : Str} {i : Nat} (h : At x y x.length i) : i ≤ x.length := (at_iff.mp h).2

theorem em_last (x : Str) {lo : Nat} (hlo : lo ≤ x.length) : emLoop x x.length [ofL []] lo = true := by
  have : findTo x (ofL []) lo x.length = lo := find_some hlo (Nat.le_refl _) (at_iff.mpr ⟨List.nil_prefix, hlo⟩) fun i h1 h2 => by omega
  unfold emLoop
  rw [this, if_neg (by omega)]
  rfl
theorem em_enc : ∀ (ts ss : List (List Nat)) (pre : List Nat), (∀ s ∈ ss, Sg s) → (∀ t ∈ ts, Sg t) →
    emLoop (ofL (pre ++ encL ts)) (ofL (pre ++ encL ts)).length ((ss.map fun s => ofL (tokL s)) ++ [ofL []]) pre.length = ss.isSublist ts := by
  intro ts
  induction ts with
  | nil =>
    intro ss pre hs ht
    have hl : pre.length ≤ (ofL (pre ++ encL [])).length := by simp [Str.length]
    cases ss with
    | nil => exact em_last _ hl
    | cons s ss =>
      show emLoop _ _ (ofL (tokL s) :: _) _ = false
      unfold emLoop
      rw [find_none hl fun i h1 h2 => ?_]
      · rfl
      · have h3 := (at_pre h1 (by have := at_le h2; simpa [Str.length] using this)).mp h2
        obtain ⟨u, e⟩ := h3
        simp [encL, tokL] at e
  | cons t ts ih =>
    intro ss pre hs ht
    have hl : pre.length ≤ (ofL (pre ++ encL (t :: ts))).length := by simp [Str.length]
    have e2 : pre ++ encL (t :: ts) = (pre ++ tokL t) ++ encL ts := by rw [encL_cons, List.append_assoc]
    have hpl : (pre ++ tokL t).length = pre.length + (tokL t).length := List.length_append
    have htl : (tokL t).length = t.length + 2 := tok_len
    have hl2 : (pre ++ tokL t).length ≤ (ofL (pre ++ encL (t :: ts))).length := by rw [e2]; simp [Str.length]
    cases ss with
    | nil => exact em_last _ hl
    | cons s ss =>
      have hsg := hs s List.mem_cons_self
      have htg := ht t List.mem_cons_self
      have hAt : ∀ i, pre.length ≤ i → (At (ofL (pre ++ encL (t :: ts))) (ofL (tokL s)) (ofL (pre ++ encL (t :: ts))).length i → (i - pre.length = 0 ∧ s = t) ∨ (tokL t).length ≤ i - pre.length) := fun i h1 h2 => by
        have h3 := (at_pre h1 (by have := at_le h2; simpa [Str.length] using this)).mp h2
        rcases (tok_at hsg htg).mp h3 with q | q
        · exact .inl q
        · exact .inr q.1
      by_cases hst : s = t
      · subst hst
        have hf : findTo (ofL (pre ++ encL (s :: ts))) (ofL (tokL s)) pre.length (ofL (pre ++ encL (s :: ts))).length = pre.length :=
          find_some hl (Nat.le_refl _) ((at_pre (Nat.le_refl _) (by simp)).mpr (by rw [Nat.sub_self, List.drop_zero]; exact List.prefix_append _ _)) fun i h1 h2 => by omega
        show emLoop _ _ (ofL (tokL s) :: _) _ = (s :: ss).isSublist (s :: ts)
        unfold emLoop
        rw [hf, if_neg (by omega)]
        have := ih ss (pre ++ tokL s) (fun a ha => hs a (List.mem_cons_of_mem _ ha)) (fun a ha => ht a (List.mem_cons_of_mem _ ha))
        rw [← e2, hpl] at this
        have e3 : ((pre.length : Nat) : Int) + ((ofL (tokL s)).length : Nat) = ((pre.length + (tokL s).length : Nat) : Int) := by simp [Str.length]
        rw [e3]
        exact this.trans (by simp [List.isSublist])
      · have hsk := find_skip (x := ofL (pre ++ encL (t :: ts))) (y := ofL (tokL s)) (lo := pre.length) (hi := (pre ++ tokL t).length) (by omega) hl2 fun i h1 h2 z => by
          rcases hAt i h1 z with q | q
          · exact hst q.2
          · omega
        have := ih (s :: ss) (pre ++ tokL t) hs (fun a ha => ht a (List.mem_cons_of_mem _ ha))
        rw [← e2] at this
        have e4 : (s :: ss).isSublist (t :: ts) = (s :: ss).isSublist ts := by
          simp [List.isSublist, hst]
        rw [e4, ← this]
        show emLoop _ _ (ofL (tokL s) :: _) _ = emLoop _ _ (ofL (tokL s) :: _) _
        unfold emLoop
        rw [hsk]
theorem em_first (x : Str) (ws : List Str) : emLoop x x.length (ofL [] :: ws) 0 = emLoop x x.length ws 0 := by
  have : findTo x (ofL []) (0 : Nat) x.length = (0 : Nat) := find_some (Nat.zero_le _) (Nat.le_refl _) (at_iff.mpr ⟨List.nil_prefix, Nat.zero_le _⟩) fun i h1 h2 => by omega
  conv => lhs; unfold emLoop
  have this' : findTo x (ofL []) 0 x.length = 0 := this
  rw [this', if_neg (by decide)]
  rfl
theorem em_sub {ss ts : List (List Nat)} (hs : ∀ s ∈ ss, Sg s) (ht : ∀ t ∈ ts, Sg t) : emLoop (ofL (encL ts)) (ofL (encL ts)).length (ofL [] :: (midL ss ++ [ofL []])) 0 = ss.isSublist ts := by
  rw [em_first]
  unfold midL
  split
  · rename_i h
    subst h
    rw [show [ofL []] ++ [ofL []] = ofL [] :: [ofL []] from rfl, em_first]
    have := em_last (ofL (encL ts)) (Nat.zero_le _)
    exact this.trans (by cases ts <;> rfl)
  · have := em_enc ts ss [] hs ht
    simpa using this
end Mine

/-! StrN -/
namespace Mine
open PySem PySem.Builtin PySem.Builtin.Str PySem.StrLaws
set_option Elab.async false

/-- the pieces of a text of signs between double spaces, h ahead -/
def prt : List Nat → List (List Nat) → List (List Nat)
  | h, [] => [h]
  | h, [s] => [h ++ (s ++ [32])]
  | h, s :: t :: r => (h ++ s) :: prt [] (t :: r)
theorem prt_join (h : List Nat) : ∀ (s : List Nat) (r : List (List Nat)), joinL [32, 32] (prt h (s :: r)) = h ++ (s ++ 32 :: encL r)
  | s, [] => by simp [prt, joinL, encL]
  | s, t :: r => by
    have ih := prt_join [] t r
    have hne : ∃ a b, prt [] (t :: r) = a :: b := by cases r with | nil => exact ⟨_, _, rfl⟩ | cons c d => exact ⟨_, _, rfl⟩
    obtain ⟨a, b, e⟩ := hne
    show joinL [32, 32] ((h ++ s) :: prt [] (t :: r)) = _
    rw [e] at ih ⊢
    rw [joinL, ih]
    simp [encL, tokL]
theorem no_double {l : List Nat} {j : Nat} {c : Nat} (h : [c, c] <+: l.drop j) : l[j]? = some c ∧ l[j + 1]? = some c := by
  obtain ⟨u, e⟩ := h
  have h0 : (l.drop j)[0]? = some c := by rw [← e]; rfl
  have h1 : (l.drop j)[1]? = some c := by rw [← e]; rfl
  rw [List.getElem?_drop] at h0 h1
  exact ⟨by simpa using h0, by simpa using h1⟩
theorem prt_clean : ∀ (s : List Nat) (r : List (List Nat)) (h : List Nat), (h = [] ∨ h = [32]) → (∀ t ∈ s :: r, Sg t) → Clean [32, 32] (prt h (s :: r))
  | s, [], h, hh, hs => by
    intro j hj
    obtain ⟨h1, h2⟩ := no_double hj
    have hsg := hs s List.mem_cons_self
    rcases hh with rfl | rfl
    · rw [List.nil_append] at h1 h2
      have hj2 : j < s.length := by
        have := (List.getElem?_eq_some_iff.mp h2).1
        rw [List.length_append] at this
        simp at this; omega
      rw [List.getElem?_append_left hj2] at h1
      exact hsg.sp (List.mem_of_getElem? h1)
    · cases j with
      | zero =>
        have h2' : (s ++ [32])[0]? = some 32 := by simpa using h2
        have : 0 < s.length := List.length_pos_iff.mpr hsg.ne
        rw [List.getElem?_append_left this] at h2'
        exact hsg.sp (List.mem_of_getElem? h2')
      | succ j =>
        have h1' : (s ++ [32])[j]? = some 32 := by simpa using h1
        have h2' : (s ++ [32])[j + 1]? = some 32 := by simpa using h2
        have hj2 : j < s.length := by
          have := (List.getElem?_eq_some_iff.mp h2').1
          rw [List.length_append] at this
          simp at this; omega
        rw [List.getElem?_append_left hj2] at h1'
        exact hsg.sp (List.mem_of_getElem? h1')
  | s, t :: r, h, hh, hs => by
    have ih := prt_clean t r [] (.inl rfl) (fun a ha => hs a (List.mem_cons_of_mem _ ha))
    have hne : ∃ a b, prt [] (t :: r) = a :: b := by cases r with | nil => exact ⟨_, _, rfl⟩ | cons c d => exact ⟨_, _, rfl⟩
    obtain ⟨a, b, e⟩ := hne
    show Clean [32, 32] ((h ++ s) :: prt [] (t :: r))
    rw [e] at ih ⊢
    refine ⟨fun j hj hp => ?_, ih⟩
    obtain ⟨h1, h2⟩ := no_double hp
    have hsg := hs s List.mem_cons_self
    rw [List.getElem?_append_left hj] at h1
    rcases hh with rfl | rfl
    · rw [List.nil_append] at h1
      exact hsg.sp (List.mem_of_getElem? h1)
    · cases j with
      | zero =>
        have : 0 < s.length := List.length_pos_iff.mpr hsg.ne
        rw [List.getElem?_append_left (by simp; omega)] at h2
        have h2' : s[0]? = some 32 := by simpa using h2
        exact hsg.sp (List.mem_of_getElem? h2')
      | succ j =>
        have h1' : s[j]? = some 32 := by simpa using h1
        exact hsg.sp (List.mem_of_getElem? h1')
theorem join_pre (y a p : List Nat) (r : List (List Nat)) : a ++ joinL y (p :: r) = joinL y ((a ++ p) :: r) := by
  cases r with
  | nil => rfl
  | cons q r => simp [joinL]
theorem gap_join : ∀ (s : List Nat) (r : List (List Nat)) (h : List Nat), joinL gap (prt h (s :: r)) ++ dots = joinL dots ((h ++ (s ++ [32])) :: (r.map tokL ++ [[]]))
  | s, [], h => by simp [prt, joinL]
  | s, t :: r, h => by
    have ih := gap_join t r []
    have hne : ∃ a b, prt [] (t :: r) = a :: b := by cases r with | nil => exact ⟨_, _, rfl⟩ | cons c d => exact ⟨_, _, rfl⟩
    obtain ⟨a, b, e⟩ := hne
    show joinL gap ((h ++ s) :: prt [] (t :: r)) ++ dots = joinL dots ((h ++ (s ++ [32])) :: (tokL t :: (r.map tokL ++ [[]])))
    rw [e] at ih ⊢
    rw [joinL, joinL]
    have := join_pre dots [32] ([] ++ (t ++ [32])) (r.map tokL ++ [[]])
    rw [show [32] ++ ([] ++ (t ++ [32])) = tokL t from rfl] at this
    rw [← this, ← ih]
    simp
/-- the pattern for the signs ss -/
def wantL (ss : List (List Nat)) : List Nat := joinL dots ([] :: ((if ss = [] then [[]] else ss.map tokL) ++ [[]]))
theorem midL_eq (ss : List (List Nat)) : (if ss = [] then [[]] else ss.map tokL).map ofL = midL ss := by
  unfold midL; split <;> simp
theorem clean_of {y : List Nat} {c : Nat} {t : List Nat} (hy : y = c :: t) : ∀ (parts : List (List Nat)), parts ≠ [] → (∀ p ∈ parts, c ∉ p) → Clean y parts
  | [], h, _ => absurd rfl h
  | [p], _, h => by
    intro j hp
    obtain ⟨u, e⟩ := hp
    rw [hy] at e
    have : c ∈ p.drop j := by rw [← e]; exact List.mem_cons_self
    exact h p List.mem_cons_self (List.mem_of_mem_drop this)
  | p :: q :: r, _, h => by
    refine ⟨fun j hj hp => ?_, clean_of hy (q :: r) (by simp) fun a ha => h a (List.mem_cons_of_mem _ ha)⟩
    obtain ⟨u, e⟩ := hp
    rw [hy] at e
    have h0 : ((p ++ ((c :: t) ++ joinL (c :: t) (q :: r))).drop j)[0]? = some c := by rw [← e]; rfl
    rw [List.getElem?_drop, Nat.add_zero, List.getElem?_append_left hj] at h0
    exact h p List.mem_cons_self (List.mem_of_getElem? h0)
theorem dots_cps : Str.cps (Str.ofString "...") = dots.toArray := by decide +kernel
theorem want_split {ss : List (List Nat)} (hs : ∀ s ∈ ss, Sg s) {x : Str} (hx : x.cps.toList = wantL ss) : Txt.split x (Str.ofString "...") = ofL [] :: (midL ss ++ [ofL []]) := by
  have hd : (Str.ofString "...").cps.toList = dots := by rw [dots_cps]
  have hcl : Clean (Str.ofString "...").cps.toList ([] :: ((if ss = [] then [[]] else ss.map tokL) ++ [[]])) := by
    rw [hd]
    refine clean_of (c := 46) (t := [46, 46]) rfl _ (by simp) fun p hp => ?_
    rcases List.mem_cons.mp hp with q | q
    · rw [q]; simp
    · rcases List.mem_append.mp q with q | q
      · split at q
        · rw [List.mem_singleton.mp q]; simp
        · obtain ⟨s, h, rfl⟩ := List.mem_map.mp q
          have := (hs s h).dot
          simp [tokL, this]
      · rw [List.mem_singleton.mp q]; simp
  have := split_clean (x := x) (y := Str.ofString "...") (by rw [hd]; decide) (by decide +kernel) hcl (by rw [hx, hd]; rfl)
  rw [this, List.map_cons, List.map_append, midL_eq]
  rfl
theorem want_contains {ss : List (List Nat)} {x : Str} (hx : x.cps.toList = wantL ss) : Txt.contains x (Str.ofString "...") = true := by
  unfold Txt.contains
  rw [found_iff]
  have hd : (Str.ofString "...").cps.toList = dots := by rw [dots_cps]
  have : At x (Str.ofString "...") x.length 0 := by
    refine at_iff.mpr ⟨?_, Nat.zero_le _⟩
    rw [List.drop_zero, hx, hd]
    unfold wantL
    cases e : ((if ss = [] then [[]] else ss.map tokL) ++ [[]]) with
    | nil => simp at e
    | cons a b => exact List.prefix_append _ _
  exact ⟨0, this⟩
theorem want_replace {ss : List (List Nat)} (hs : ∀ s ∈ ss, Sg s) {x : Str} (hx : x.cps.toList = encL ss) :
    ((Str.ofString "..." ++ Txt.replace x (Str.ofString "  ") (Str.ofString " ... ")) ++ Str.ofString "...").cps.toList = wantL ss := by
  have hd : (Str.ofString "...").cps.toList = dots := by rw [dots_cps]
  have h2 : (Str.ofString "  ").cps = #[32, 32] := by decide +kernel
  have h3 : Str.ofString " ... " = ofL gap := by decide +kernel
  have happ : ∀ a b : Str, (a ++ b).cps.toList = a.cps.toList ++ b.cps.toList := fun a b => by
    show (a.cps ++ b.cps).toList = _; simp
  rw [happ, happ, hd, h3]
  cases ss with
  | nil =>
    have := replace_clean (x := x) (y := Str.ofString "  ") (parts := [[]]) (by rw [h2]; decide) (by rw [h2]; intro j; simp) (by rw [hx, h2]; rfl) gap
    rw [this]
    rfl
  | cons s r =>
    have := replace_clean (x := x) (y := Str.ofString "  ") (parts := prt [32] (s :: r)) (by rw [h2]; decide) (by rw [h2]; exact prt_clean s r [32] (.inr rfl) hs) (by
      rw [hx, h2]
      show _ = joinL [32, 32] _
      rw [prt_join]
      simp [encL, tokL]) gap
    rw [this, List.append_assoc, gap_join]
    rfl
theorem encL_append (a b : List (List Nat)) : encL (a ++ b) = encL a ++ encL b := List.flatMap_append
theorem encL_len_le (ss : List (List Nat)) : ∀ s ∈ ss, (tokL s).length ≤ (encL ss).length := fun s hs => by
  induction ss with
  | nil => cases hs
  | cons t ss ih =>
    rw [encL_cons, List.length_append]
    rcases List.mem_cons.mp hs with q | q
    · rw [q]; omega
    · have := ih q; omega
theorem join_dots_len : ∀ (l : List (List Nat)), (joinL dots (l ++ [[]])).length = (l.map fun p => p.length + 3).sum
  | [] => rfl
  | [p] => by simp [joinL]
  | p :: q :: r => by
    have ih := join_dots_len (q :: r)
    show (joinL dots (p :: q :: (r ++ [[]]))).length = _
    rw [joinL, List.length_append, List.length_append]
    have ih' : (joinL dots (q :: (r ++ [[]]))).length = _ := ih
    rw [ih']
    simp
    omega
theorem wantL_len (ss : List (List Nat)) : (wantL ss).length ≤ 6 + 4 * (encL ss).length := by
  unfold wantL
  have h := join_dots_len ([] :: (if ss = [] then [[]] else ss.map tokL))
  rw [List.cons_append] at h
  rw [h]
  split
  · simp
  · rename_i hne
    clear h hne
    have : ∀ l : List (List Nat), ((l.map tokL).map fun p => p.length + 3).sum ≤ 4 * (encL l).length := by
      intro l
      induction l with
      | nil => simp
      | cons a l ih =>
        rw [encL_cons, List.length_append, List.map_cons, List.map_cons, List.sum_cons]
        have := tok_len (s := a)
        omega
    have := this ss
    simp only [List.map_cons, List.sum_cons, List.length_nil]
    omega
theorem midL_len {ss : List (List Nat)} : ∀ x ∈ midL ss, Str.length x ≤ (encL ss).length := fun x hx => by
  unfold midL at hx
  split at hx
  · rw [List.mem_singleton.mp hx]; simp [Str.length]
  · obtain ⟨s, hs, rfl⟩ := List.mem_map.mp hx
    have := encL_len_le ss s hs
    simpa [Str.length] using this
end Mine

/-! PlainE -/
namespace Mine
open PySem PySem.Builtin PySem.Builtin.Str PySem.StrLaws
set_option Elab.async false

abbrev En := List Nat × List Nat × Bool
def stepE (row : Str) (far : Nat) (ep eq : List Nat) (spot c : Nat) : Nat :=
  if c = 112 then ep.getD spot 0 else if c = 113 then eq.getD spot 0 else if findFrom row ⟨#[c]⟩ spot < 0 then far else (findFrom row ⟨#[c]⟩ spot + 1).toNat
def spotE (row : Str) (far : Nat) (ep eq : List Nat) (body : List Nat) (start : Nat) : Nat := body.foldl (stepE row far ep eq) start
def putE (nm : Nat) (E : En) (start spot : Nat) : En :=
  if nm = 112 then (if spot < E.1.getD start 0 then (E.1.set start spot, E.2.1, true) else E)
  else (if spot < E.2.1.getD start 0 then (E.1, E.2.1.set start spot, true) else E)
def startE (row : Str) (far : Nat) (r : Nat × List Nat) (E : En) (start : Nat) : En := putE r.1 E start (spotE row far E.1 E.2.1 r.2 start)
def ruleE (row : Str) (far : Nat) (E : En) (r : Nat × List Nat) : En := (List.range far).foldl (startE row far r) E
def turnE (row : Str) (far : Nat) (rules : List (Nat × List Nat)) (E : En) : En := rules.foldl (ruleE row far) (E.1, E.2.1, false)
def iterE (row : Str) (far : Nat) (rules : List (Nat × List Nat)) : Nat → En → En
  | 0, E => E
  | n + 1, E => if (turnE row far rules E).2.2 then iterE row far rules n (turnE row far rules E) else turnE row far rules E
def sumE (E : En) : Nat := E.1.sum + E.2.1.sum
structure OkE (far : Nat) (E : En) : Prop where
  lp : E.1.length = far + 1
  lq : E.2.1.length = far + 1
  bp : ∀ x ∈ E.1, x ≤ far
  bq : ∀ x ∈ E.2.1, x ≤ far
theorem getD_le {l : List Nat} {far i : Nat} (h : ∀ x ∈ l, x ≤ far) : l.getD i 0 ≤ far := by
  rw [List.getD_eq_getElem?_getD]
  cases e : l[i]? with
  | none => exact Nat.zero_le _
  | some v => exact h v (List.mem_of_getElem? e)
theorem find_lt {row : Str} {c : Nat} {spot : Int} : findFrom row ⟨#[c]⟩ spot < row.length := by
  unfold findFrom
  rcases occ_head_from row ⟨#[c]⟩ (fromIndex row.length spot) 1 (Nat.le_refl _) with ⟨e, _⟩ | ⟨i, r, e, _, h2, _⟩
  · rw [e]; show (-1 : Int) < _; omega
  · rw [e]
    have := h2.1
    have h1 : (⟨#[c]⟩ : Str).length = 1 := rfl
    rw [h1] at this
    show (i : Int) < _
    omega
theorem step_le {row : Str} {far : Nat} {E : En} (ok : OkE far E) (hf : row.length + 1 = far) {spot c : Nat} : stepE row far E.1 E.2.1 spot c ≤ far := by
  unfold stepE
  split
  · exact getD_le ok.bp
  · split
    · exact getD_le ok.bq
    · split
      · exact Nat.le_refl _
      · have := find_lt (row := row) (c := c) (spot := (spot : Int))
        omega
theorem spot_le {row : Str} {far : Nat} {E : En} (ok : OkE far E) (hf : row.length + 1 = far) : ∀ (body : List Nat) {start : Nat}, start ≤ far → spotE row far E.1 E.2.1 body start ≤ far
  | [], _, h => h
  | c :: body, start, _ => spot_le ok hf body (step_le ok hf)
theorem sum_set {l : List Nat} {i v : Nat} (h : v < l.getD i 0) : (l.set i v).sum < l.sum := by
  induction l generalizing i with
  | nil => simp at h
  | cons a l ih =>
    cases i with
    | zero => simp at h ⊢; omega
    | succ i =>
      have := ih (i := i) (by simpa using h)
      simp; omega
theorem set_le {l : List Nat} {i v far : Nat} (h : ∀ x ∈ l, x ≤ far) (hv : v ≤ far) : ∀ x ∈ l.set i v, x ≤ far := fun x hx => by
  rcases List.mem_or_eq_of_mem_set hx with q | q
  · exact h x q
  · rw [q]; exact hv
theorem put_ok {far nm : Nat} {E : En} {start spot : Nat} (ok : OkE far E) (hs : spot ≤ far) : OkE far (putE nm E start spot) := by
  unfold putE
  split
  · split
    · exact ⟨by simp [ok.lp], ok.lq, set_le ok.bp hs, ok.bq⟩
    · exact ok
  · split
    · exact ⟨ok.lp, by simp [ok.lq], ok.bp, set_le ok.bq hs⟩
    · exact ok
/-- what a step does to the sum -/
def Down (E E' : En) : Prop := E' = E ∨ (sumE E' < sumE E ∧ E'.2.2 = true)

theorem Down.trans {E E' E'' : En} (h : Down E E') (k : Down E' E'') : Down E E'' := by
  rcases h with rfl | ⟨h1, h2⟩
  · exact k
  · rcases k with rfl | ⟨k1, k2⟩
    · exact .inr ⟨h1, h2⟩
    · exact .inr ⟨Nat.lt_trans k1 h1, k2⟩
theorem put_down {nm : Nat} {E : En} {start spot : Nat} : Down E (putE nm E start spot) := by
  unfold putE
  split
  · split
    · rename_i h; exact .inr ⟨by have := sum_set h; show _ + _ < _ + _; dsimp only; omega, Eq.refl _⟩
    · exact .inl (Eq.refl _)
  · split
    · rename_i h; exact .inr ⟨by have := sum_set h; show _ + _ < _ + _; dsimp only; omega, Eq.refl _⟩
    · exact .inl (Eq.refl _)
theorem fold_ok {α : Type} {far : Nat} {f : En → α → En} (h : ∀ E a, OkE far E → OkE far (f E a) ∧ Down E (f E a)) : ∀ (l : List α) (E : En), OkE far E → OkE far (l.foldl f E) ∧ Down E (l.foldl f E)
  | [], E, ok => ⟨ok, .inl (Eq.refl _)⟩
  | a :: l, E, ok => by
    obtain ⟨h1, h2⟩ := h E a ok
    obtain ⟨h3, h4⟩ := fold_ok h l (f E a) h1
    exact ⟨h3, h2.trans h4⟩
theorem start_ok {row : Str} {far : Nat} (hf : row.length + 1 = far) {r : Nat × List Nat} {E : En} {start : Nat} (hs : start ≤ far) (ok : OkE far E) : OkE far (startE row far r E start) ∧ Down E (startE row far r E start) :=
  ⟨put_ok ok (spot_le ok hf _ hs), put_down⟩
theorem starts_ok {row : Str} {far : Nat} (hf : row.length + 1 = far) {r : Nat × List Nat} : ∀ (l : List Nat) (E : En), (∀ s ∈ l, s ≤ far) → OkE far E → OkE far (l.foldl (startE row far r) E) ∧ Down E (l.foldl (startE row far r) E)
  | [], E, _, ok => ⟨ok, .inl (Eq.refl _)⟩
  | a :: l, E, hl, ok => by
    obtain ⟨h1, h2⟩ := start_ok hf (r := r) (hl a List.mem_cons_self) ok
    obtain ⟨h3, h4⟩ := starts_ok hf l (startE row far r E a) (fun s hs => hl s (List.mem_cons_of_mem _ hs)) h1
    exact ⟨h3, h2.trans h4⟩
theorem rule_ok {row : Str} {far : Nat} (hf : row.length + 1 = far) {r : Nat × List Nat} {E : En} (ok : OkE far E) : OkE far (ruleE row far E r) ∧ Down E (ruleE row far E r) :=
  starts_ok hf _ E (fun s hs => Nat.le_of_lt (List.mem_range.mp hs)) ok
theorem rules_ok {row : Str} {far : Nat} (hf : row.length + 1 = far) (l : List (Nat × List Nat)) {E : En} (ok : OkE far E) : OkE far (l.foldl (ruleE row far) E) ∧ Down E (l.foldl (ruleE row far) E) :=
  fold_ok (fun E a ok => rule_ok hf ok) l E ok
theorem turn_ok {row : Str} {far : Nat} (hf : row.length + 1 = far) (rules : List (Nat × List Nat)) {E : En} (ok : OkE far E) : OkE far (turnE row far rules E) := (rules_ok hf rules (E := (E.1, E.2.1, false)) ⟨ok.lp, ok.lq, ok.bp, ok.bq⟩).1
theorem turn_down {row : Str} {far : Nat} (hf : row.length + 1 = far) (rules : List (Nat × List Nat)) {E : En} (ok : OkE far E) :
    (turnE row far rules E = (E.1, E.2.1, false)) ∨ (sumE (turnE row far rules E) < sumE E ∧ (turnE row far rules E).2.2 = true) :=
  (rules_ok hf rules (E := (E.1, E.2.1, false)) ⟨ok.lp, ok.lq, ok.bp, ok.bq⟩).2
end Mine

/-! PlainS -/
namespace Mine
open PySem PySem.Builtin PySem.Builtin.Str PySem.StrLaws
set_option Elab.async false

theorem Down.sum_le {E E' : En} (h : Down E E') : sumE E' ≤ sumE E := by
  rcases h with rfl | ⟨h, _⟩
  · exact Nat.le_refl _
  · exact Nat.le_of_lt h
/-- a run of steps that ends where it began stood still at each -/
theorem still {α : Type} {f : En → α → En} {ok : En → Prop} : ∀ (l : List α) (E : En), ok E → (∀ F a, a ∈ l → ok F → ok (f F a) ∧ Down F (f F a)) → l.foldl f E = E → ∀ a ∈ l, f E a = E
  | [], _, _, _, _, _, h => nomatch h
  | b :: l, E, hk, hd, he, a, ha => by
    have hb := hd E b List.mem_cons_self hk
    have hrest : ∀ (m : List α) (F : En), ok F → (∀ G c, c ∈ m → ok G → ok (f G c) ∧ Down G (f G c)) → sumE (m.foldl f F) ≤ sumE F := by
      intro m
      induction m with
      | nil => intro F _ _; exact Nat.le_refl _
      | cons c m ih =>
        intro F hF hm
        have := hm F c List.mem_cons_self hF
        exact Nat.le_trans (ih (f F c) this.1 fun G d hdm => hm G d (List.mem_cons_of_mem _ hdm)) this.2.sum_le
    have hbE : f E b = E := by
      rcases hb.2 with q | ⟨q, _⟩
      · exact q
      · have h1 := hrest l (f E b) hb.1 fun G c hc => hd G c (List.mem_cons_of_mem _ hc)
        have h2 : l.foldl f (f E b) = E := he
        rw [h2] at h1
        omega
    rcases List.mem_cons.mp ha with q | q
    · rw [q]; exact hbE
    · have he' : l.foldl f E = E := by
        have h2 : l.foldl f (f E b) = E := he
        rwa [hbE] at h2
      exact still l E hk (fun F c hc => hd F c (List.mem_cons_of_mem _ hc)) he' a q
theorem iter_fix {row : Str} {far : Nat} (hf : row.length + 1 = far) (rules : List (Nat × List Nat)) : ∀ (k : Nat) (E : En), OkE far E → sumE E < k → OkE far (iterE row far rules k E) ∧ turnE row far rules (iterE row far rules k E) = iterE row far rules k E
  | 0, E, _, h => by omega
  | k + 1, E, ok, h => by
    rw [iterE]
    rcases turn_down hf rules ok with q | ⟨q1, q2⟩
    · have hn : (turnE row far rules E).2.2 = false := by rw [q]
      rw [hn]
      simp only [Bool.false_eq_true, if_false]
      refine ⟨turn_ok hf rules ok, ?_⟩
      have : turnE row far rules (turnE row far rules E) = turnE row far rules E := by
        conv => lhs; rw [q]
        rfl
      exact this
    · rw [q2]
      simp only [if_true]
      exact iter_fix hf rules k _ (turn_ok hf rules ok) (by omega)
/-- nothing moves any more -/
theorem fix_still {row : Str} {far : Nat} (hf : row.length + 1 = far) {rules : List (Nat × List Nat)} {E : En} (ok : OkE far E) (h : turnE row far rules E = E) : ∀ r ∈ rules, ∀ s, s < far → startE row far r E s = E := by
  have hE : (E.1, E.2.1, false) = E := by
    rcases turn_down hf rules ok with q | ⟨q1, _⟩
    · rw [← q]; exact h
    · rw [h] at q1; omega
  have h1 : rules.foldl (ruleE row far) E = E := by
    have h' := h
    unfold turnE at h'
    rwa [hE] at h'
  intro r hr s hs
  have h2 := still (ok := OkE far) rules E ok (fun F a _ hF => rule_ok hf hF) h1 r hr
  exact still (ok := OkE far) (List.range far) E ok (fun F a ha hF => start_ok hf (Nat.le_of_lt (List.mem_range.mp ha)) hF) h2 s (List.mem_range.mpr hs)
/-- each rule's way is no shorter than what is told of its name -/
theorem fix_le {row : Str} {far : Nat} (hf : row.length + 1 = far) {rules : List (Nat × List Nat)} {E : En} (ok : OkE far E) (h : turnE row far rules E = E) {r : Nat × List Nat} (hr : r ∈ rules) {s : Nat} (hs : s < far) :
    (if r.1 = 112 then E.1.getD s 0 else E.2.1.getD s 0) ≤ spotE row far E.1 E.2.1 r.2 s := by
  have h1 := fix_still hf ok h r hr s hs
  unfold startE putE at h1
  by_cases q : r.1 = 112
  · rw [if_pos q] at h1 ⊢
    by_cases z : spotE row far E.1 E.2.1 r.2 s < E.1.getD s 0
    · rw [if_pos z] at h1
      have h2 := sum_set z
      have h3 : E.1.set s (spotE row far E.1 E.2.1 r.2 s) = E.1 := congrArg (·.1) h1
      rw [h3] at h2
      omega
    · omega
  · rw [if_neg q] at h1 ⊢
    by_cases z : spotE row far E.1 E.2.1 r.2 s < E.2.1.getD s 0
    · rw [if_pos z] at h1
      have h2 := sum_set z
      have h3 : E.2.1.set s (spotE row far E.1 E.2.1 r.2 s) = E.2.1 := congrArg (·.2.1) h1
      rw [h3] at h2
      omega
    · omega
end Mine

/-! F1a -/
namespace Mine
open PySem PySem.W PySem.Calls PyProof.Rows PySem.Challenge
set_option Elab.async false
set_option maxRecDepth 100000
def parts (p : Program) (i : Nat) : Str × Arguments × List Stmt × Scope := match p.main.body[i]? with
  | some (.FunctionDef n a b _ _ _ s _ _ _) => (n, a, b, s)
  | _ => default
def fdOf (q : Str) (x : Str × Arguments × List Stmt × Scope) (dflt mod code : Value) : FuncData :=
  { name := x.1, qualname := q, params := x.2.1, body := .stmts x.2.2.1, scope := x.2.2.2, globals := 3, closure := [], defaults := dflt, kwdefaults := .none, pyModule := mod, code := code }

theorem le_size {n : Nat} (h : n ≤ 1000000) : n ≤ sizeLine := Nat.le_trans h (by decide)
theorem em_ok {prog : Program} {w : World} {mg mb : Str → Option Value} {K : List (Addr × Obj)} {f : Addr} {mod code : Value} {t : Tok} (hd : IsDef K f (fdOf "_ellipsis_match" (parts pw_re0170_01 56) .none mod code)) (hg : mg "ELLIPSIS_MARKER" = some (.str "..." t))
    (hlen : mg "len" = none) {want got : Str} {mid : List Str} (hc : Txt.contains want "..." = true) (hws : Txt.split want "..." = ("" : Str) :: (mid ++ [("" : Str)])) (hw : want.length ≤ 1000000) (hgot : got.length ≤ 1000000) (hmz : ∀ x ∈ mid, Str.length x ≤ 1000000) :
    FnOk prog w mg mb K f [.str want, .str got] [] (.bool (emLoop got got.length (("" : Str) :: (mid ++ [("" : Str)])) 0)) 1 := by
  have hsz2 : (Builtin.Str.partsBetween want (Builtin.Str.occurrences want "..." 0 want.length (want.length + 1)) (Str.length "...")).length ≤ sizeLine := by
    rw [length_partsBetween]
    have := StrLaws.occ_length_le want "..." 0 want.length (want.length + 1)
    have : sizeLine = 2 ^ 24 := rfl
    omega
  have hmid : (("" : Str) :: (mid ++ [("" : Str)]) : List Str).length ≤ sizeLine := by
    have h1 : (Txt.split want "...").length ≤ want.length + 2 := by
      unfold Txt.split
      split
      · simp
      · split
        · simp
        · rw [length_partsBetween]
          have := StrLaws.occ_length_le want "..." 0 want.length (want.length + 1)
          omega
    rw [hws] at h1
    have : sizeLine = 2 ^ 24 := rfl
    omega
  have hml : (((("" : Str) :: (mid ++ [("" : Str)]) : List Str)).map PV.str).length = mid.length + 2 := by simp
  generalize hwl : (((("" : Str) :: (mid ++ [("" : Str)]) : List Str)).map PV.str) = wl at *
  have hwlz : wl.length ≤ sizeLine := by rw [← hwl, List.length_map]; exact hmid
  have hsplit : ∀ C V M, Bn C V M "str.split" [.str want, .str "..."] (.list wl) := fun C V M => by
    have := Bn.split (C := C) (V := V) (M := M) (x := want) (y := "...") rfl (le_size hw) hsz2
    rwa [hws, hwl] at this
  refine FnOk.of_body (names := ["want", "got"]) hd rfl ?_ (by decide) rfl ⟨[], fun _ => rfl, List.nodup_nil⟩ ?_ ?_
  · intro vs hv
    match vs, hv with
    | [a, b], _ => rfl
  · intro L x hx
    simp only [List.mem_cons, List.not_mem_nil, or_false] at hx
    rcases hx with rfl | rfl <;> exact .inl rfl
  intro A L
  -- if ELLIPSIS_MARKER not in want
  refine EX.cons (EX1.ite (b := !Txt.contains want "...") (ET.cmp (EV.gstr hg rfl) (EV.local rfl rfl) Bi.notIn_str rfl) (fun h => by rw [hc] at h; cases h) fun _ => EX.nil ?_)
  -- ws = want.split(..)
  refine EX.cons (EX1.assign (.inl rfl) (EV.meth (EV.local rfl rfl) rfl (EVs.cons (EV.gstr hg rfl) EVs.nil) mth_split Ty.str (hsplit _ _ _) rfl rfl (by decide)) rfl ?_)
  -- assert
  refine EX.cons (EX1.assert (ET.of_eq (ET.cmp (EV.callB (EV.builtin rfl hlen bootS_len (by decide)) rfl (EVs.cons (EV.local rfl rfl) EVs.nil) (Bn.len_list hwlz)) EV.cint Bi.ge_int rfl) (by rw [hml]; exact decide_eq_true (by omega))) ?_)
  -- startpos, endpos = (0, len(got))
  refine EX.cons (EX1.assignSwap (.inl rfl) (.inl rfl) (EV.tuple rfl (EVs.cons EV.cint (EVs.cons (EV.callB (EV.builtin rfl hlen bootS_len (by decide)) rfl (EVs.cons (EV.local rfl rfl) EVs.nil) (Bn.len_str (le_size hgot))) EVs.nil)) (by decide)) rfl rfl ?_)
  -- w = ws[0]
  have h0 : wl[(0 : Int).toNat]? = some (.str "") := by rw [← hwl]; rfl
  refine EX.cons (EX1.assign (.inl rfl) (EV.sub (EV.local rfl rfl) EV.cint (Ix.list (by decide) h0 (by decide))) rfl ?_)
  refine EX.cons (EX1.ite (b := false) (ET.of_eq (ET.val (EV.local rfl rfl) (Tr.str (x := "") (by decide)) rfl) rfl) (fun h => nomatch h) fun _ => EX.nil ?_)
  -- w = ws[-1]
  have h1 : wl[((-1 : Int) + wl.length).toNat]? = some (.str "") := by
    rw [hml, ← hwl]
    have : ((-1 : Int) + ((mid.length + 2 : Nat) : Int)).toNat = mid.length + 1 := by omega
    rw [this]
    simp
  refine EX.cons (EX1.assign (.inl rfl) (EV.sub (EV.local rfl rfl) (EV.neg EV.cint) (Ix.listNeg (by decide) (by omega) (by decide) h1)) rfl ?_)
  refine EX.cons (EX1.ite (b := false) (ET.of_eq (ET.val (EV.local rfl rfl) (Tr.str (x := "") (by decide)) rfl) rfl) (fun h => nomatch h) fun _ => EX.nil ?_)
  -- if startpos > endpos
  refine EX.cons (EX1.ite (b := false) (ET.of_eq (ET.cmp (EV.local rfl rfl) (EV.local rfl rfl) Bi.gt_int rfl) (decide_eq_false (by omega))) (fun h => nomatch h) fun _ => EX.nil ?_)
  -- for w in ws
  generalize hall : (("" : Str) :: (mid ++ [("" : Str)])) = all at *
  refine EX.cons (EX1.for (fun done V' M' => M' = [] ∧ ∃ (sp : Int) (dn rest : List Str), all = dn ++ rest ∧ done = dn.map .str ∧ vat V' "startpos" = some (.int sp) ∧ vat V' "endpos" = some (.int got.length) ∧ vat V' "got" = some (.str got) ∧
      emLoop got got.length rest sp = emLoop got got.length all 0) rfl (It.list (EV.local rfl rfl)) ⟨rfl, 0, [], all, rfl, rfl, rfl, rfl, rfl, rfl⟩ ?_ ?_ (fun _ => rfl))
  · rintro done p rest V' M' hit ⟨rfl, sp, dn, rs, h1, rfl, h3, h4, h5, h6⟩
    cases rs with
    | nil =>
      have := congrArg List.length hit
      rw [← hwl, h1] at this
      simp at this
    | cons x xs =>
      have hp : p = .str x := by
        rw [← hwl, h1, List.map_append, List.map_cons] at hit
        exact ((List.append_cancel_left hit) |> List.cons.inj).1.symm
      subst hp
      refine EX.cons (EX1.assign (.inl rfl) (EV.meth (EV.local rfl (lk h5)) rfl (EVs.cons (EV.local rfl rfl) (EVs.cons (EV.local rfl (lk h3)) (EVs.cons (EV.local rfl (lk h4)) EVs.nil))) mth_find Ty.str Bn.find4 rfl rfl (by decide)) rfl ?_)
      refine EX.cons (EX1.ite (ET.cmp (EV.local rfl rfl) EV.cint Bi.lt_int rfl) (fun hb => ?_) fun hb => EX.nil ?_)
      · refine EX.cons (EX1.ret EV.cbool (.inl ?_))
        rw [← h6]
        unfold emLoop
        rw [if_pos (of_decide_eq_true hb)]
      · refine EX.cons (EX1.aug rfl rfl (EV.callB (EV.builtin rfl hlen bootS_len (by decide)) rfl (EVs.cons (EV.local rfl rfl) EVs.nil) (Bn.len_str ?_)) Bi.iadd_int (EX.nil ⟨rfl, _, dn ++ [x], xs, ?_, ?_, rfl, lk (lk (lk h4)), lk (lk (lk h5)), ?_⟩))
        · refine le_size ?_
          have hx : x ∈ all := by rw [h1]; simp
          rw [← hall] at hx
          rcases List.mem_cons.mp hx with q | q
          · rw [q]; decide
          · rcases List.mem_append.mp q with q | q
            · exact hmz x q
            · rw [List.mem_singleton.mp q]; decide
        · rw [h1]; simp
        · simp
        · rw [← h6]
          conv => rhs; unfold emLoop
          rw [if_neg (of_decide_eq_false hb)]
  · rintro V' M' ⟨rfl, sp, dn, rest, h1, h2, h3, h4, h5, h6⟩
    have hr : rest = [] := by
      have := congrArg List.length h2
      rw [← hwl, List.length_map, List.length_map, h1, List.length_append] at this
      exact List.length_eq_zero_iff.mp (by omega)
    subst hr
    refine EX.cons (EX1.ret EV.cbool (.inl ?_))
    rw [← h6]
    rfl

/-- the same, told by signs -/
theorem em_ss {prog : Program} {w : World} {mg mb : Str → Option Value} {K : List (Addr × Obj)} {f : Addr} {mod code : Value} {t : Tok} (hd : IsDef K f (fdOf "_ellipsis_match" (parts pw_re0170_01 56) .none mod code)) (hg : mg "ELLIPSIS_MARKER" = some (.str "..." t))
    (hlen : mg "len" = none) {want : Str} {ss ts : List (List Nat)} (hss : ∀ s ∈ ss, Sg s) (hts : ∀ s ∈ ts, Sg s) (hw : want.cps.toList = wantL ss) (h1 : (encL ss).length ≤ 100000) (h2 : (encL ts).length ≤ 100000) :
    FnOk prog w mg mb K f [.str want, .str (ofL (encL ts))] [] (.bool (ss.isSublist ts)) 1 := by
  have hwl : want.length = (wantL ss).length := by rw [← hw]; simp [Str.length]
  have := em_ok (prog := prog) (w := w) (mg := mg) (mb := mb) (K := K) (f := f) (mod := mod) (code := code) (t := t) hd hg hlen (want := want) (got := ofL (encL ts)) (mid := midL ss) (want_contains hw) (want_split hss hw)
    (by rw [hwl]; have := wantL_len ss; omega) (by simp [Str.length]; omega) (fun x hx => by have := midL_len x hx; omega)
  rwa [show (("" : Str) :: (midL ss ++ [("" : Str)])) = ofL [] :: (midL ss ++ [ofL []]) from rfl, em_sub hss hts] at this
end Mine

/-! F1b -/
namespace Mine
open PySem PySem.W PySem.Calls PyProof.Rows PySem.Challenge
set_option Elab.async false
set_option maxRecDepth 100000

abbrev encS (ss : List (List Nat)) : Str := ofL (encL ss)
abbrev textsPV (T : List (List (List Nat))) : List PV := T.map fun ss => .str (encS ss)
theorem held_ok {prog : Program} {w : World} {mg mb : Str → Option Value} {K : List (Addr × Obj)} {f fe : Addr} {mod code mod' code' : Value} {t : Tok} (hd : IsDef K f (fdOf "_law_held" (parts pw_re0170_01 68) .none mod code))
    (hde : IsDef K fe (fdOf "_ellipsis_match" (parts pw_re0170_01 56) .none mod' code')) (hge : mg "_ellipsis_match" = some (.ref fe)) (hg : mg "ELLIPSIS_MARKER" = some (.str "..." t)) (hlen : mg "len" = none)
    {T : List (List (List Nat))} {ts : List (List Nat)} (hT : ∀ ss ∈ T, (∀ s ∈ ss, Sg s) ∧ (encL ss).length ≤ 100000) (hts : ∀ s ∈ ts, Sg s) (htl : (encL ts).length ≤ 100000) :
    FnOk prog w mg mb K f [.list (textsPV T), .str (encS ts)] [] (.bool (T.any fun ss => ss.isSublist ts)) 2 := by
  refine FnOk.of_body (names := ["texts", "text"]) hd rfl ?_ (by decide) rfl ⟨[], fun _ => rfl, List.nodup_nil⟩ ?_ ?_
  · intro vs hv
    match vs, hv with
    | [a, b], _ => rfl
  · intro L x hx
    simp only [List.mem_cons, List.not_mem_nil, or_false] at hx
    rcases hx with rfl | rfl <;> exact .inl rfl
  intro A L
  refine EX.cons (EX1.for (fun done V' M' => M' = [] ∧ ∃ dn rest, T = dn ++ rest ∧ done = textsPV dn ∧ vat V' "text" = some (.str (encS ts)) ∧ (dn.any fun ss => ss.isSublist ts) = false) rfl (It.list (EV.local rfl rfl)) ⟨rfl, [], T, rfl, rfl, rfl, rfl⟩ ?_ ?_ (fun _ => rfl))
  · rintro done p rest V' M' hit ⟨rfl, dn, rs, h1, rfl, h3, h4⟩
    cases rs with
    | nil =>
      have := congrArg List.length hit
      rw [h1] at this
      simp at this
    | cons ss xs =>
      have hp : p = .str (encS ss) := by
        rw [h1] at hit
        simp only [textsPV, List.map_append, List.map_cons] at hit
        exact ((List.append_cancel_left hit) |> List.cons.inj).1.symm
      subst hp
      obtain ⟨hss, hsl⟩ := hT ss (by rw [h1]; simp)
      have hx : (encS ss).cps.toList = encL ss := rfl
      have hxl : (encS ss).length = (encL ss).length := by simp [Str.length]
      have hz : Str.length (Str.ofString " ... ") = 5 := by decide +kernel
      have hz3 : Str.length (Str.ofString "...") = 3 := by decide +kernel
      have hwant := want_replace hss hx
      have hwl := congrArg List.length hwant
      have hwb := wantL_len ss
      have hadd : ∀ a b : Str, (a ++ b).cps.toList.length = a.length + b.length := fun a b => by
        show (a.cps ++ b.cps).toList.length = _; simp [Str.length]
      have hlen1 : ∀ a : Str, a.cps.toList.length = a.length := fun a => by simp [Str.length]
      have hl2 := hadd (Str.ofString "..." ++ Txt.replace (encS ss) (Str.ofString "  ") (Str.ofString " ... ")) (Str.ofString "...")
      have hl1 := hadd (Str.ofString "...") (Txt.replace (encS ss) (Str.ofString "  ") (Str.ofString " ... "))
      rw [hlen1] at hl1
      have hsl2 : sizeLine = 2 ^ 24 := rfl
      refine EX.cons (EX1.ite (b := ss.isSublist ts) (ET.of_eq (ET.cmp (EV.callF (EV.gref hge rfl) rfl (EVs.cons (EV.bin (EV.bin EV.cstr (EV.replaceC (EV.local rfl rfl) rfl rfl ?_) (Bi.add_str ?_)) EV.cstr (Bi.add_str ?_)) (EVs.cons (EV.local rfl (lk h3)) EVs.nil))
        hde (em_ss hde hg hlen hss hts hwant hsl htl) (Nat.le_refl 1)) EV.cbool Bi.is_bool rfl) (by cases ss.isSublist ts <;> rfl)) (fun hb => ?_) fun hb => EX.nil ?_)
      · rw [hxl, hz]; omega
      · omega
      · omega
      · refine EX.cons (EX1.ret EV.cbool (.inl ?_))
        congr 2
        rw [h1, List.any_append, List.any_cons, hb]
        simp
      · refine EX.nil ⟨rfl, dn ++ [ss], xs, by rw [h1]; simp, by simp [textsPV], lk h3, ?_⟩
        rw [List.any_append, h4]
        simp [hb]
  · rintro V' M' ⟨rfl, dn, rest, h1, h2, h3, h4⟩
    have hr : rest = [] := by
      have := congrArg List.length h2
      rw [h1] at this
      simp at this
      exact this
    subst hr
    rw [List.append_nil] at h1
    subst h1
    exact EX.cons (EX1.ret EV.cbool (.inl (by rw [h4])))
end Mine

/-! F1c -/
namespace Mine
open PySem PySem.W PySem.Calls PyProof.Rows PySem.Challenge
set_option Elab.async false
set_option maxRecDepth 100000

def cut (x : Str) (a n : Nat) : Str := Txt.slice x (some (a : Int)) (some ((a : Int) + (n : Int)))
def szFrom (D : List (Str × PV)) (x : Str) (p : Nat) : Nat → Nat
  | 0 => 0
  | n + 1 => if (decide (0 < n) && !(D.lookup (cut x p (n + 1))).isSome) = true then szFrom D x p n else n + 1
theorem szFrom_pos {D : List (Str × PV)} {x : Str} {p : Nat} : ∀ n, 1 ≤ n → 1 ≤ szFrom D x p n
  | 0, h => absurd h (by decide)
  | n + 1, _ => by
    unfold szFrom
    split
    · rename_i h
      rw [Bool.and_eq_true, decide_eq_true_eq] at h
      exact szFrom_pos n h.1
    · omega
def piecesFrom (D : List (Str × PV)) (x : Str) : Nat → Nat → List Str
  | 0, _ => []
  | n + 1, p => if p < x.length then cut x p (szFrom D x p 3) :: piecesFrom D x n (p + szFrom D x p 3) else []
theorem pieces_fuel {D : List (Str × PV)} {x : Str} : ∀ (n m p : Nat), x.length - p ≤ n → x.length - p ≤ m → piecesFrom D x n p = piecesFrom D x m p
  | 0, 0, _, _, _ => rfl
  | 0, m + 1, p, h, _ => by unfold piecesFrom; rw [if_neg (by omega)]
  | n + 1, 0, p, _, h => by unfold piecesFrom; rw [if_neg (by omega)]
  | n + 1, m + 1, p, h1, h2 => by
    unfold piecesFrom
    split
    · have := szFrom_pos (D := D) (x := x) (p := p) 3 (by decide)
      rw [pieces_fuel n m (p + szFrom D x p 3) (by omega) (by omega)]
    · rfl
theorem pieces_len {D : List (Str × PV)} {x : Str} : ∀ (n p : Nat), (piecesFrom D x n p).length ≤ n
  | 0, _ => Nat.le_refl _
  | n + 1, p => by
    unfold piecesFrom
    split
    · have := pieces_len (D := D) (x := x) n (p + szFrom D x p 3); simp; omega
    · simp
theorem pieces_ok {prog : Program} {w : World} {mg mb : Str → Option Value} {K : List (Addr × Obj)} {f ae : Addr} {mod code : Value} {D : List (Str × PV)} (hd : IsDef K f (fdOf "_law_pieces" (parts pw_re0170_01 66) .none mod code))
    (hge : mg "EXACT_TOKEN_TYPES" = some (.ref ae)) (hD : GDict w.params K ae D) (hlen : mg "len" = none) {text : Str} (ht : text.length ≤ 100000) :
    FnOk prog w mg mb K f [.str text] [] (.list ((piecesFrom D text text.length 0).map .str)) 1 := by
  have hsl : text.length ≤ sizeLine := le_size (by omega)
  refine FnOk.of_body (names := ["text"]) hd rfl ?_ (by decide) rfl ⟨[], fun _ => rfl, List.nodup_nil⟩ ?_ ?_
  · intro vs hv
    match vs, hv with
    | [a], _ => rfl
  · intro L x hx
    simp only [List.mem_cons, List.not_mem_nil, or_false] at hx
    rcases hx with rfl; exact .inl rfl
  intro A L
  refine EX.cons (EX1.newList (.inl rfl) fun a => ?_)
  refine EX.cons (EX1.assign (.inl rfl) EV.cint rfl ?_)
  refine EX.cons (EX1.while (fun n V' M' => ∃ (place : Nat) (done : List Str), M' = [(a, .list (done.map .str))] ∧ vat V' "pieces" = some (.at a) ∧ vat V' "place" = some (.int place) ∧ vat V' "text" = some (.str text) ∧ n = text.length - place ∧ done.length ≤ place ∧
    done ++ piecesFrom D text text.length place = piecesFrom D text text.length 0) text.length ⟨0, [], rfl, rfl, rfl, rfl, rfl, Nat.le_refl _, rfl⟩ ?_)
  rintro n V' M' ⟨place, done, rfl, h1, h2, h3, rfl, h4, h5⟩
  refine ⟨decide ((place : Int) < text.length), ?_, fun hb => ?_, fun hb => ?_⟩
  · exact ET.cmp (EV.local rfl h2) (EV.callB (EV.builtin rfl hlen bootS_len (by decide)) rfl (EVs.cons (EV.local rfl h3) EVs.nil) (Bn.len_str hsl)) Bi.lt_int rfl
  · have hpl : place < text.length := by have := of_decide_eq_true hb; omega
    refine EX.cons (EX1.assign (.inl rfl) EV.cint rfl ?_)
    refine EX.cons (EX1.while (fun n V'' M'' => M'' = [(a, .list (done.map .str))] ∧ vat V'' "pieces" = some (.at a) ∧ vat V'' "place" = some (.int place) ∧ vat V'' "text" = some (.str text) ∧ vat V'' "size" = some (.int n) ∧ 1 ≤ n ∧ szFrom D text place n = szFrom D text place 3) 3
      ⟨rfl, lk h1, lk h2, lk h3, rfl, by decide, rfl⟩ ?_)
    rintro n V'' M'' ⟨rfl, g1, g2, g3, g4, g5, g6⟩
    have hsz : (decide ((n : Int) > 1) && ((!(D.lookup (cut text place n)).isSome) && true)) = (decide (0 < n - 1) && !(D.lookup (cut text place (n - 1 + 1))).isSome) := by
      rw [Bool.and_true, show n - 1 + 1 = n by omega]
      congr 1
      exact decide_eq_decide.mpr (by omega)
    have hst : szFrom D text place n = if (decide (0 < n - 1) && !(D.lookup (cut text place (n - 1 + 1))).isSome) = true then szFrom D text place (n - 1) else n - 1 + 1 := by
      conv => lhs; rw [show n = (n - 1) + 1 by omega]
      rw [szFrom]
    refine ⟨_, ET.bool (AllT.and (ET.cmp (EV.local rfl g4) EV.cint Bi.gt_int rfl) fun _ => AllT.and (ET.cmp (EV.sliceS (EV.local rfl g3) (PartOf.one (EV.local rfl g2)) (PartOf.one (EV.bin (EV.local rfl g2) (EV.local rfl g4) Bi.add_int)) hsl) (EV.gat hge rfl) (Bi.notIn_gdict hD) rfl) fun _ => AllT.and_nil), fun hb2 => ?_, fun hb2 => ?_⟩
    · have hb3 := hsz.symm.trans hb2
      rw [if_pos hb3] at hst
      have hn1 : 0 < n - 1 := by rw [Bool.and_eq_true, decide_eq_true_eq] at hb3; exact hb3.1
      refine EX.cons (EX1.aug rfl g4 EV.cint Bi.isub_int (EX.nil ⟨n - 1, by omega, rfl, lk g1, lk g2, lk g3, ?_, hn1, ?_⟩))
      · show List.lookup _ _ = _
        rw [lookup_cons_of, if_pos rfl]
        congr 2
        omega
      · rw [← hst]; exact g6
    · have hb3 := hsz.symm.trans hb2
      rw [hb3, if_neg (by decide)] at hst
      have hn : n = szFrom D text place 3 := by rw [← g6, hst]; omega
      have hstep : piecesFrom D text text.length place = cut text place n :: piecesFrom D text text.length (place + n) := by
        obtain ⟨m, hm⟩ : ∃ m, text.length = m + 1 := ⟨text.length - 1, by omega⟩
        conv => lhs; rw [hm]
        rw [piecesFrom, if_pos hpl, ← hn, pieces_fuel m text.length (place + n) (by omega) (by omega)]
      show EX _ _ _ _ _
      refine EX.cons (EX1.appendG (M₁ := []) (M₂ := []) (EV.local rfl g1) rfl (EV.sliceS (EV.local rfl g3) (PartOf.one (EV.local rfl g2)) (PartOf.one (EV.bin (EV.local rfl g2) (EV.local rfl g4) Bi.add_int)) hsl) (by rw [List.length_map]; exact le_size (by omega)) rfl rfl rfl rfl ?_)
      refine EX.cons (EX1.aug rfl g2 (EV.local rfl g4) Bi.iadd_int (EX.nil ⟨text.length - (place + n), by omega, place + n, done ++ [cut text place n], ?_, lk g1, ?_, lk g3, rfl, by simp; omega, ?_⟩))
      · simp [cut]
      · show List.lookup _ _ = _
        rw [lookup_cons_of, if_pos rfl]
        rfl
      · rw [← h5, hstep]; simp
  · have hpl : text.length ≤ place := by have := of_decide_eq_false hb; omega
    have hnil : piecesFrom D text text.length place = [] := by
      rw [pieces_fuel text.length 0 place (by omega) (by omega)]; rfl
    rw [hnil, List.append_nil] at h5
    show EX _ _ _ _ _
    exact EX.cons (EX1.retOwn (EV.local rfl h1) (List.mem_singleton.mpr rfl) (.inl (by rw [h5])))
end Mine

/-! F1d -/
namespace Mine
open PySem PySem.W PySem.Calls PyProof.Rows PySem.Challenge
set_option Elab.async false
set_option maxRecDepth 100000
def symAt (k : Int) : Str := Txt.item "0101pq" k
def szOf (x : Int) : Int := if (2 : Int) < (((x.fdiv 2).fmod 16 + 1).fdiv 2) then 2 else ((x.fdiv 2).fmod 16 + 1).fdiv 2
def bodyOf (x : Int) : Str := Txt.slice (symAt ((x.fdiv 32).fmod 6) ++ symAt ((x.fdiv 192).fmod 6)) none (some (szOf x))
def nameOf (x : Int) : Str := Txt.item "pq" (x.fmod 2)
abbrev ruleOf (x : Int) : PV × PV := (.str (nameOf x), .str (bodyOf x))
theorem fmod_in {x m : Int} (hm : 0 < m) : 0 ≤ x.fmod m ∧ x.fmod m < m := ⟨Int.fmod_nonneg_of_pos _ hm, Int.fmod_lt_of_pos _ hm⟩
theorem fits_small {i : Int} (h0 : 0 ≤ i) (h1 : i < 1000000) : fitsSsize i = true := by
  unfold fitsSsize
  simp; omega
theorem len_sym : Str.length (Str.ofString "0101pq") = 6 := by decide +kernel
theorem len_pq : Str.length (Str.ofString "pq") = 2 := by decide +kernel
theorem len_item' (x : Str) (i : Int) : (Txt.item x i).length = 1 := rfl
theorem Ix.strOk {C : Cx} {V : Vars} {M : Owns} {x : Str} {i : Int} (h0 : 0 ≤ i) (h1 : i < x.length) (h2 : x.length < 1000000) : Ix C V M (.str x) (.int i) (.str (Txt.item x i)) :=
  Ix.str (fits_small h0 (by omega)) (charAt_isSome (by omega) h1)
theorem Bi.divC {C : Cx} {V : Vars} {M : Owns} {a b : Int} (h1 : b ≠ 0) (h2 : b.natAbs < 1073741824) : Bi C V M (binaryOp .FloorDiv) (.int a) (.int b) (.int (a.fdiv b)) := Bi.div_int h1 (PyProof.noPylong_small h2)

theorem drawn_ok {prog : Program} {w : World} {mg mb : Str → Option Value} {K : List (Addr × Obj)} {f : Addr} {mod code : Value} (hd : IsDef K f (fdOf "_law_drawn" (parts pw_re0170_01 64) .none mod code))
    (hmin : mg "min" = none) {draws : List Int} (hdl : draws.length ≤ 1000) :
    FnOk prog w mg mb K f [.list (draws.map .int)] [] (.list ((draws.map ruleOf).map pairPV)) 1 := by
  refine FnOk.of_body (names := ["draws"]) hd rfl ?_ (by decide) rfl ⟨[], fun _ => rfl, List.nodup_nil⟩ ?_ ?_
  · intro vs hv
    match vs, hv with
    | [a], _ => rfl
  · intro L x hx
    simp only [List.mem_cons, List.not_mem_nil, or_false] at hx
    rcases hx with rfl; exact .inl rfl
  intro A L
  refine EX.cons (EX1.newList (.inl rfl) fun a => ?_)
  refine EX.cons (EX1.for (fun done V' M' => ∃ dn rest : List Int, draws = dn ++ rest ∧ done = dn.map .int ∧ M' = [(a, .list ((dn.map ruleOf).map pairPV))] ∧ vat V' "drawn" = some (.at a)) rfl (It.list (EV.local rfl rfl)) ⟨[], draws, rfl, rfl, rfl, rfl⟩ ?_ ?_ (fun _ => rfl))
  · rintro done p rest V' M' hit ⟨dn, rs, h1, rfl, rfl, h3⟩
    cases rs with
    | nil =>
      have := congrArg List.length hit
      rw [h1] at this
      simp at this
    | cons x xs =>
      have hp : p = .int x := by
        rw [h1, List.map_append, List.map_cons] at hit
        exact ((List.append_cancel_left hit) |> List.cons.inj).1.symm
      subst hp
      have b1 := fmod_in (x := x.fdiv 32) (m := 6) (by decide)
      have b2 := fmod_in (x := x.fdiv 192) (m := 6) (by decide)
      have b3 := fmod_in (x := x) (m := 2) (by decide)
      refine EX.cons (EX1.assign (.inl rfl) (EV.callB (EV.builtin rfl hmin boot_min (by decide)) rfl (EVs.cons (EV.bin (EV.bin (EV.bin (EV.bin (EV.local rfl rfl) EV.cint (Bi.divC (by decide) (by decide))) EV.cint (Bi.mod_int (by decide))) EV.cint Bi.add_int) EV.cint (Bi.divC (by decide) (by decide))) (EVs.cons EV.cint EVs.nil)) Bn.min2) rfl ?_)
      refine EX.cons (EX1.assign (.inl rfl) (EV.bin (EV.sub EV.cstr (EV.bin (EV.bin (EV.local rfl rfl) EV.cint (Bi.divC (by decide) (by decide))) EV.cint (Bi.mod_int (by decide))) (Ix.strOk b1.1 (by rw [len_sym]; exact b1.2) (by rw [len_sym]; decide)))
        (EV.sub EV.cstr (EV.bin (EV.bin (EV.local rfl rfl) EV.cint (Bi.divC (by decide) (by decide))) EV.cint (Bi.mod_int (by decide))) (Ix.strOk b2.1 (by rw [len_sym]; exact b2.2) (by rw [len_sym]; decide))) (Bi.add_str (by rw [len_item', len_item']; decide))) rfl ?_)
      refine EX.cons (EX1.appendG (M₁ := []) (M₂ := []) (EV.local rfl (lk (lk (lk h3)))) rfl (EV.tuple rfl (EVs.cons (EV.sub EV.cstr (EV.bin (EV.local rfl rfl) EV.cint (Bi.mod_int (by decide))) (Ix.strOk b3.1 (by rw [len_pq]; exact b3.2) (by rw [len_pq]; decide))) (EVs.cons (EV.sliceS (EV.local rfl rfl) PartOf.nil (PartOf.one (EV.local rfl rfl)) ?_) EVs.nil)) (by decide)) ?_ rfl rfl rfl rfl ?_)
      · show (symAt ((x.fdiv 32).fmod 6) ++ symAt ((x.fdiv 192).fmod 6)).length ≤ sizeLine
        have : (symAt ((x.fdiv 32).fmod 6) ++ symAt ((x.fdiv 192).fmod 6)).length = 2 := by
          show (_ ++ _ : Array Nat).size = 2
          rw [Array.size_append]; rfl
        rw [this]; decide
      · rw [List.length_map, List.length_map]
        have := congrArg List.length h1
        rw [List.length_append] at this
        exact le_size (by omega)
      · refine EX.nil ⟨dn ++ [x], xs, by rw [h1]; simp, by simp, ?_, lk (lk (lk h3))⟩
        simp [pairPV, ruleOf, nameOf, bodyOf, szOf, symAt]
  · rintro V' M' ⟨dn, rest, h1, h2, rfl, h3⟩
    have hr : rest = [] := by
      have := congrArg List.length h2
      rw [h1] at this
      simp at this
      exact this
    subst hr
    rw [List.append_nil] at h1
    subst h1
    exact EX.cons (EX1.retOwn (EV.local rfl h3) (List.mem_singleton.mpr rfl) (.inl rfl))
end Mine

/-! F1e -/
namespace Mine
open PySem PySem.W PySem.Calls PyProof.Rows PySem.Challenge
set_option Elab.async false
set_option maxRecDepth 100000
set_option maxHeartbeats 4000000

abbrev ch (c : Nat) : Str := ⟨#[c]⟩
abbrev natPV (l : List Nat) : List PV := l.map fun (n : Nat) => PV.int n
abbrev ownE (ap aq : Addr) (E : En) : Owns := [(aq, .list (natPV E.2.1)), (ap, .list (natPV E.1))]
theorem natPV_get {l : List Nat} {i : Nat} (h : i < l.length) : (natPV l)[((i : Nat) : Int).toNat]? = some (.int (l.getD i 0 : Nat)) := by
  simp [natPV, h, List.getD_eq_getElem?_getD]
theorem natPV_set {l : List Nat} {i v : Nat} : (natPV l).set i (.int v) = natPV (l.set i v) := by simp [natPV, List.map_set]
theorem ends_look {ap aq : Addr} (c : Nat) : List.lookup (ch c) [((Str.ofString "p"), PV.at ap), (Str.ofString "q", PV.at aq)] = if c = 112 then some (.at ap) else if c = 113 then some (.at aq) else none := by
  have hp : Str.ofString "p" = ch 112 := by decide +kernel
  have hq : Str.ofString "q" = ch 113 := by decide +kernel
  rw [hp, hq, lookup_cons_of, lookup_cons_of]
  have : ∀ d, (ch c = ch d) ↔ c = d := fun d => by
    constructor
    · intro h; have := congrArg (fun s : Str => s.cps.toList) h; simpa using this
    · rintro rfl; rfl
  simp only [this, List.lookup_nil]

theorem SN.mulNat {C : Cx} {V : Vars} {M : Owns} {l r : Expr} {pos : Pos} {far : Nat} (hf2 : far ≤ 1000) (h1 : EV C V M l (.list [.int (far : Nat)])) (h2 : EV C V M r (.int ((far : Nat) + 1))) : SN C V M (eval (.BinOp l .Mult r pos) C.env) (natPV (List.replicate (far + 1) far)) := by
  have := SN.mul (pos := pos) h1 h2 (by omega) (by omega)
  rw [show (((far : Nat) : Int) + 1).toNat = far + 1 by omega] at this
  simpa [natPV] using this
theorem ends_ok {prog : Program} {w : World} {mg mb : Str → Option Value} {K : List (Addr × Obj)} {f : Addr} {mod code : Value} (hd : IsDef K f (fdOf "_law_ends" (parts pw_re0170_01 70) .none mod code))
    (hlen : mg "len" = none) (hrange : mg "range" = none) {rules : List (Nat × List Nat)} (hr : ∀ r ∈ rules, r.1 = 112 ∨ r.1 = 113) {row : Str} {far : Nat} (hf : row.length + 1 = far) (hf2 : far ≤ 1000) :
    FnOk prog w mg mb K f [.list ((rules.map fun r => ((PV.str (ch r.1), PV.str (ofL r.2)) : PV × PV)).map pairPV), .str row] [] (.list (natPV (iterE row far rules (2 * (far + 1) * far + 1) (List.replicate (far + 1) far, List.replicate (far + 1) far, true)).1)) 1 := by
  refine FnOk.of_body (names := ["drawn", "row"]) hd rfl ?_ (by decide) rfl ⟨[], fun _ => rfl, List.nodup_nil⟩ ?_ ?_
  · intro vs hv
    match vs, hv with
    | [a, b], _ => rfl
  · intro L x hx
    simp only [List.mem_cons, List.not_mem_nil, or_false] at hx
    rcases hx with rfl | rfl <;> exact .inl rfl
  intro A L
  have hrl : row.length ≤ sizeLine := le_size (by omega)
  have hfI : ((row.length : Nat) : Int) + 1 = (far : Nat) := by omega
  refine EX.cons (EX1.assign (pv := .int (far : Nat)) (.inl rfl) (EV.of_eq (EV.bin (EV.callB (EV.builtin rfl hlen bootS_len (by decide)) rfl (EVs.cons (EV.local rfl rfl) EVs.nil) (Bn.len_str hrl)) EV.cint Bi.add_int) (by rw [hfI])) rfl ?_)
  refine EX.cons ?_
  refine EX1.assignDict ?_ ?_ ?_ ?_ ?_ ?_ ?_
  · exact .inl rfl
  · rfl
  · rfl
  · simp
  · decide
  · rfl
  refine DT.own (l := natPV (List.replicate (far + 1) far)) EV.cstr ?_ (fun p hp => ?_) fun ap => ?_
  · exact SN.mulNat hf2 (SN.list rfl (EVs.cons (EV.local rfl rfl) EVs.nil) (by decide)).sv (EV.bin (EV.local rfl rfl) EV.cint Bi.add_int)
  · obtain ⟨n, _, rfl⟩ := List.mem_map.mp hp; exact Scalar.int
  refine DT.own (l := natPV (List.replicate (far + 1) far)) EV.cstr ?_ (fun p hp => ?_) fun aq => ?_
  · exact SN.mulNat hf2 (SN.list rfl (EVs.cons (EV.local rfl rfl) EVs.nil) (by decide)).sv (EV.bin (EV.local rfl rfl) EV.cint Bi.add_int)
  · obtain ⟨n, _, rfl⟩ := List.mem_map.mp hp; exact Scalar.int
  refine DT.nil ⟨by simp; decide, ?_⟩
  refine EX.cons (EX1.assign (.inl rfl) EV.cbool rfl ?_)
  have ok0 : OkE far (List.replicate (far + 1) far, List.replicate (far + 1) far, true) := ⟨by simp, by simp, fun x hx => by rw [List.eq_of_mem_replicate hx]; exact Nat.le_refl _, fun x hx => by rw [List.eq_of_mem_replicate hx]; exact Nat.le_refl _⟩
  have hsum0 : sumE (List.replicate (far + 1) far, List.replicate (far + 1) far, true) < 2 * (far + 1) * far + 1 := by
    unfold sumE
    simp only [List.sum_replicate_nat]
    have : 2 * (far + 1) * far = (far + 1) * far + (far + 1) * far := by rw [Nat.two_mul, Nat.add_mul]
    omega
  generalize hfin : iterE row far rules (2 * (far + 1) * far + 1) (List.replicate (far + 1) far, List.replicate (far + 1) far, true) = fin at *
  -- what the frame holds throughout
  let Base : Vars → Prop := fun V => vat V "drawn" = some (.list ((rules.map fun r => ((PV.str (ch r.1), PV.str (ofL r.2)) : PV × PV)).map pairPV)) ∧ vat V "row" = some (.str row) ∧ vat V "far" = some (.int (far : Nat)) ∧ vat V "ends" = some (.dict [(Str.ofString "p", .at ap), (Str.ofString "q", .at aq)])
  have base_cons : ∀ {V x p}, Base V → ((Str.ofString "drawn" == x) = false ∧ (Str.ofString "row" == x) = false ∧ (Str.ofString "far" == x) = false ∧ (Str.ofString "ends" == x) = false) → Base ((x, p) :: V) := fun {V x p} h n => ⟨lk h.1 n.1, lk h.2.1 n.2.1, lk h.2.2.1 n.2.2.1, lk h.2.2.2 n.2.2.2⟩
  refine EX.cons (EX1.while (fun n V' M' => ∃ (E : En) (k : Nat), Base V' ∧ M' = ownE ap aq E ∧ vat V' "moved" = some (.bool E.2.2) ∧ OkE far E ∧ n = sumE E + (if E.2.2 then 1 else 0) ∧ (E.2.2 = true → sumE E < k) ∧ (if E.2.2 then iterE row far rules k E else E) = fin)
    (sumE (List.replicate (far + 1) far, List.replicate (far + 1) far, true) + 1) ⟨(List.replicate (far + 1) far, List.replicate (far + 1) far, true), 2 * (far + 1) * far + 1, ⟨rfl, rfl, rfl, rfl⟩, rfl, rfl, ok0, by rw [if_pos (Eq.refl true)], fun _ => hsum0, (if_pos (Eq.refl true)).trans hfin⟩ ?_)
  rintro n V' M' ⟨E, k, hB, rfl, h1, ok, rfl, hk, hE⟩
  refine ⟨E.2.2, ET.val (EV.local rfl h1) Tr.bool rfl, fun hb => ?_, fun hb => ?_⟩
  · rw [hb, if_pos rfl] at hE
    have hk2 : sumE E < k := hk hb
    refine EX.cons (EX1.assign (.inl rfl) EV.cbool rfl ?_)
    have okF : OkE far (E.1, E.2.1, false) := ⟨ok.lp, ok.lq, ok.bp, ok.bq⟩
    refine EX.cons (EX1.forP (fun done V'' M'' => ∃ dn rs : List (Nat × List Nat), rules = dn ++ rs ∧ done = (dn.map fun r => ((PV.str (ch r.1), PV.str (ofL r.2)) : PV × PV)) ∧ Base V'' ∧ M'' = ownE ap aq (dn.foldl (ruleE row far) (E.1, E.2.1, false)) ∧
      vat V'' "moved" = some (.bool (dn.foldl (ruleE row far) (E.1, E.2.1, false)).2.2)) rfl rfl (ItP.list (EV.local rfl (lk hB.1))) ⟨[], rules, by simp, by simp, base_cons hB (by decide), rfl, rfl⟩ ?_ ?_ (fun _ => rfl))
    · rintro done p q rest V'' M'' hit ⟨dn, rs, g1, rfl, hB2, rfl, g3⟩
      cases rs with
      | nil =>
        exfalso
        have := congrArg List.length hit
        rw [g1] at this
        simp at this
      | cons r rs =>
        have hpq : (p, q) = ((PV.str (ch r.1), PV.str (ofL r.2)) : PV × PV) := by
          rw [g1, List.map_append, List.map_cons] at hit
          exact ((List.append_cancel_left hit) |> List.cons.inj).1.symm
        obtain ⟨rfl, rfl⟩ := Prod.mk.inj hpq
        have okd : OkE far (dn.foldl (ruleE row far) (E.1, E.2.1, false)) := (rules_ok hf dn okF).1
        have hr1 := hr r (by rw [g1]; simp)
        generalize hE1 : dn.foldl (ruleE row far) (E.1, E.2.1, false) = E1 at *
        refine EX.cons (EX1.for (fun done V3 M3 => done.length ≤ far ∧ Base V3 ∧ M3 = ownE ap aq ((List.range done.length).foldl (startE row far r) E1) ∧ vat V3 "moved" = some (.bool ((List.range done.length).foldl (startE row far r) E1).2.2) ∧
            vat V3 "name" = some (.str (ch r.1)) ∧ vat V3 "body" = some (.str (ofL r.2))) rfl
          (It.range1 (EV.builtin rfl hrange (by decide +kernel) (by decide)) (EV.local rfl (lk (lk hB2.2.2.1))) rfl (by omega) (by omega)) ⟨Nat.zero_le _, base_cons (base_cons hB2 (by decide)) (by decide), rfl, lk (lk g3), rfl, rfl⟩ ?_ ?_ (fun _ => rfl))
        · rintro done p rest V3 M3 hit ⟨e1, hB3, rfl, e3, e4, e5⟩
          have hp : p = .int (done.length : Nat) := by
            have := upFrom_get (a := 0) (n := ((far : Nat) : Int).toNat) (i := done.length) (p := p) (by rw [hit]; simp)
            rw [this]; congr 1; omega
          have hdl : done.length < far := by
            have := congrArg List.length hit
            rw [upFrom_len, List.length_append, List.length_cons] at this
            omega
          subst hp
          have ok2 : OkE far ((List.range done.length).foldl (startE row far r) E1) := (starts_ok hf _ E1 (fun x hx => by have := List.mem_range.mp hx; omega) okd).1
          have hnext : (List.range (done ++ [PV.int (done.length : Nat)]).length).foldl (startE row far r) E1 = startE row far r ((List.range done.length).foldl (startE row far r) E1) done.length := by
            rw [List.length_append, List.length_singleton, List.range_succ, List.foldl_append]; rfl
          rw [hnext]
          generalize hE2 : (List.range done.length).foldl (startE row far r) E1 = E2 at *
          generalize hst : done.length = st at *
          refine EX.cons (EX1.assign (.inl rfl) (EV.local rfl rfl) rfl ?_)
          refine EX.cons (EX1.for (fun done V4 M4 => ∃ dn rs : List Nat, r.2 = dn ++ rs ∧ done = dn.map (fun c => PV.str ⟨#[c]⟩) ∧ Base V4 ∧ M4 = ownE ap aq E2 ∧ vat V4 "moved" = some (.bool E2.2.2) ∧ vat V4 "name" = some (.str (ch r.1)) ∧ vat V4 "body" = some (.str (ofL r.2)) ∧
              vat V4 "start" = some (.int (st : Nat)) ∧ vat V4 "spot" = some (.int (spotE row far E2.1 E2.2.1 dn st : Nat))) rfl (It.str (EV.local rfl (lk (lk e5)))) ⟨[], r.2, rfl, rfl, base_cons (base_cons hB3 (by decide)) (by decide), rfl, lk (lk e3), lk (lk e4), lk (lk e5), rfl, rfl⟩ ?_ ?_ (fun _ => rfl))
          · rintro done p rest V4 M4 hit ⟨dn, rs, d1, rfl, hB4, rfl, d4, d5, d6, d7, d8⟩
            have h2 : (ofL r.2).cps.toList = r.2 := rfl
            rw [h2, d1] at hit
            cases rs with
            | nil =>
              exfalso
              have := congrArg List.length hit
              simp at this
            | cons c rs =>
              have hp : p = .str (ch c) := by
                rw [List.map_append, List.map_cons] at hit
                exact ((List.append_cancel_left hit) |> List.cons.inj).1.symm
              subst hp
              have hspot : spotE row far E2.1 E2.2.1 dn st ≤ far := spot_le ok2 hf dn (by omega)
              have hnext : spotE row far E2.1 E2.2.1 (dn ++ [c]) st = stepE row far E2.1 E2.2.1 (spotE row far E2.1 E2.2.1 dn st) c := by
                unfold spotE; rw [List.foldl_append]; rfl
              generalize hsp : spotE row far E2.1 E2.2.1 dn st = sp at *
              have hIp := natPV_get (l := E2.1) (i := sp) (by rw [ok2.lp]; omega)
              have hIq := natPV_get (l := E2.2.1) (i := sp) (by rw [ok2.lq]; omega)
              have hend := ends_look (ap := ap) (aq := aq) c
              refine EX.cons (EX1.ite (ET.cmp (EV.local rfl rfl) (EV.local rfl (lk hB4.2.2.2)) Bi.in_dict rfl) (fun hb2 => ?_) (fun hb2 => ?_))
              · rw [hend] at hb2
                by_cases c1 : c = 112
                · rw [if_pos c1] at hend
                  refine EX.cons (EX1.assign (.inl rfl) (EV.sub (EV.sub (EV.local rfl (lk hB4.2.2.2)) (EV.local rfl rfl) (Ix.dict hend)) (EV.local rfl (lk d8)) (Ix.own (List.mem_cons_of_mem _ List.mem_cons_self) (by omega) hIp (by omega))) rfl (EX.nil ?_))
                  refine EX.nil ⟨dn ++ [c], rs, by rw [d1]; simp, by simp, base_cons (base_cons hB4 (by decide)) (by decide), rfl, lk (lk d4), lk (lk d5), lk (lk d6), lk (lk d7), ?_⟩
                  show List.lookup _ _ = _
                  rw [lookup_cons_of, if_pos rfl, hnext]
                  unfold stepE
                  rw [if_pos c1]
                · by_cases c2 : c = 113
                  · rw [if_neg c1, if_pos c2] at hend
                    refine EX.cons (EX1.assign (.inl rfl) (EV.sub (EV.sub (EV.local rfl (lk hB4.2.2.2)) (EV.local rfl rfl) (Ix.dict hend)) (EV.local rfl (lk d8)) (Ix.own List.mem_cons_self (by omega) hIq (by omega))) rfl (EX.nil ?_))
                    refine EX.nil ⟨dn ++ [c], rs, by rw [d1]; simp, by simp, base_cons (base_cons hB4 (by decide)) (by decide), rfl, lk (lk d4), lk (lk d5), lk (lk d6), lk (lk d7), ?_⟩
                    show List.lookup _ _ = _
                    rw [lookup_cons_of, if_pos rfl, hnext]
                    unfold stepE
                    rw [if_neg c1, if_pos c2]
                  · rw [if_neg c1, if_neg c2] at hb2; cases hb2
              · rw [hend] at hb2
                have c1 : c ≠ 112 := fun q => by rw [if_pos q] at hb2; cases hb2
                have c2 : c ≠ 113 := fun q => by rw [if_neg c1, if_pos q] at hb2; cases hb2
                refine EX.cons (EX1.ite (ET.cmp (EV.meth (EV.local rfl (lk hB4.2.1)) rfl (EVs.cons (EV.local rfl rfl) (EVs.cons (EV.local rfl (lk d8)) EVs.nil)) mth_find Ty.str Bn.find3 rfl rfl (by decide)) EV.cint Bi.lt_int rfl) (fun hb3 => ?_) (fun hb3 => ?_))
                · refine EX.cons (EX1.assign (.inl rfl) (EV.local rfl (lk hB4.2.2.1)) rfl (EX.nil (EX.nil ?_)))
                  refine EX.nil ⟨dn ++ [c], rs, by rw [d1]; simp, by simp, base_cons (base_cons hB4 (by decide)) (by decide), rfl, lk (lk d4), lk (lk d5), lk (lk d6), lk (lk d7), ?_⟩
                  show List.lookup _ _ = _
                  rw [lookup_cons_of, if_pos rfl, hnext]
                  unfold stepE
                  rw [if_neg c1, if_neg c2, if_pos (of_decide_eq_true hb3)]
                · refine EX.cons (EX1.assign (.inl rfl) (EV.bin (EV.meth (EV.local rfl (lk hB4.2.1)) rfl (EVs.cons (EV.local rfl rfl) (EVs.cons (EV.local rfl (lk d8)) EVs.nil)) mth_find Ty.str Bn.find3 rfl rfl (by decide)) EV.cint Bi.add_int) rfl (EX.nil (EX.nil ?_)))
                  refine EX.nil ⟨dn ++ [c], rs, by rw [d1]; simp, by simp, base_cons (base_cons hB4 (by decide)) (by decide), rfl, lk (lk d4), lk (lk d5), lk (lk d6), lk (lk d7), ?_⟩
                  show List.lookup _ _ = _
                  have hge : ¬ findFrom row ⟨#[c]⟩ (sp : Int) < 0 := of_decide_eq_false hb3
                  rw [lookup_cons_of, if_pos rfl, hnext]
                  unfold stepE
                  rw [if_neg c1, if_neg c2, if_neg hge, Int.toNat_of_nonneg (by omega)]
          · rintro V4 M4 ⟨dn, rs, d1, d2, hB4, rfl, d4, d5, d6, d7, d8⟩
            have hrs : rs = [] := by
              have := congrArg List.length d2
              have h2 : (ofL r.2).cps.toList = r.2 := rfl
              rw [h2, d1] at this
              simp at this
              exact this
            subst hrs
            rw [List.append_nil] at d1
            rw [← d1] at d8
            have hspot : spotE row far E2.1 E2.2.1 r.2 st ≤ far := spot_le ok2 hf r.2 (by omega)
            have hstart : startE row far r E2 st = putE r.1 E2 st (spotE row far E2.1 E2.2.1 r.2 st) := rfl
            generalize hsp : spotE row far E2.1 E2.2.1 r.2 st = sp at *
            have hIp := natPV_get (l := E2.1) (i := st) (by rw [ok2.lp]; omega)
            have hIq := natPV_get (l := E2.2.1) (i := st) (by rw [ok2.lq]; omega)
            have hend := ends_look (ap := ap) (aq := aq) r.1
            have hlp : (natPV E2.1).length = far + 1 := by rw [List.length_map, ok2.lp]
            have hlq : (natPV E2.2.1).length = far + 1 := by rw [List.length_map, ok2.lq]
            have hlen' : (done ++ [PV.int (st : Nat)]).length ≤ far := by rw [List.length_append, List.length_singleton, hst]; omega
            have hstN : ((st : Nat) : Int).toNat = st := by omega
            rcases hr1 with q1 | q1
            · rw [if_pos q1] at hend
              have hput : putE r.1 E2 st sp = if sp < E2.1.getD st 0 then (E2.1.set st sp, E2.2.1, true) else E2 := by unfold putE; rw [if_pos q1]
              refine EX.cons (EX1.ite (ET.cmp (EV.local rfl d8) (EV.sub (EV.sub (EV.local rfl hB4.2.2.2) (EV.local rfl d5) (Ix.dict hend)) (EV.local rfl d7) (Ix.own (List.mem_cons_of_mem _ List.mem_cons_self) (by omega) hIp (by omega))) Bi.lt_int rfl) (fun hb2 => ?_) (fun hb2 => ?_))
              · rw [if_pos (by have := of_decide_eq_true hb2; omega)] at hput
                rw [hstart, hput]
                refine EX.cons (EX1.setItem (M₁ := [(aq, .list (natPV E2.2.1))]) (M₂ := []) (EV.local rfl d8) (EV.sub (EV.local rfl hB4.2.2.2) (EV.local rfl d5) (Ix.dict hend)) (EV.local rfl d7) (by omega) (by rw [hlp]; omega) (by omega) rfl ?_)
                refine EX.cons (EX1.assign (.inl rfl) EV.cbool rfl (EX.nil (EX.nil ⟨hlen', base_cons hB4 (by decide), ?_, rfl, lk d5, lk d6⟩)))
                rw [hstN, natPV_set]; rfl
              · rw [if_neg (by have := of_decide_eq_false hb2; omega)] at hput
                rw [hstart, hput]
                exact EX.nil (EX.nil ⟨hlen', hB4, rfl, d4, d5, d6⟩)
            · have q0 : r.1 ≠ 112 := by omega
              rw [if_neg q0, if_pos q1] at hend
              have hput : putE r.1 E2 st sp = if sp < E2.2.1.getD st 0 then (E2.1, E2.2.1.set st sp, true) else E2 := by unfold putE; rw [if_neg q0]
              refine EX.cons (EX1.ite (ET.cmp (EV.local rfl d8) (EV.sub (EV.sub (EV.local rfl hB4.2.2.2) (EV.local rfl d5) (Ix.dict hend)) (EV.local rfl d7) (Ix.own List.mem_cons_self (by omega) hIq (by omega))) Bi.lt_int rfl) (fun hb2 => ?_) (fun hb2 => ?_))
              · rw [if_pos (by have := of_decide_eq_true hb2; omega)] at hput
                rw [hstart, hput]
                refine EX.cons (EX1.setItem (M₁ := []) (M₂ := [(ap, .list (natPV E2.1))]) (EV.local rfl d8) (EV.sub (EV.local rfl hB4.2.2.2) (EV.local rfl d5) (Ix.dict hend)) (EV.local rfl d7) (by omega) (by rw [hlq]; omega) (by omega) rfl ?_)
                refine EX.cons (EX1.assign (.inl rfl) EV.cbool rfl (EX.nil (EX.nil ⟨hlen', base_cons hB4 (by decide), ?_, rfl, lk d5, lk d6⟩)))
                rw [hstN, natPV_set]; rfl
              · rw [if_neg (by have := of_decide_eq_false hb2; omega)] at hput
                rw [hstart, hput]
                exact EX.nil (EX.nil ⟨hlen', hB4, rfl, d4, d5, d6⟩)
        · rintro V3 M3 ⟨e1, hB3, rfl, e3, _, _⟩
          rw [upFrom_len] at e3 ⊢
          have hfar : ((far : Nat) : Int).toNat = far := by omega
          rw [hfar] at e3 ⊢
          refine EX.nil ⟨dn ++ [r], rs, by rw [g1]; simp, by simp, hB3, ?_, ?_⟩
          · rw [List.foldl_append, hE1]; rfl
          · rw [List.foldl_append, hE1]; exact e3
    · rintro V'' M'' ⟨dn, rs, g1, g2, hB2, rfl, g3⟩
      have hrs : rs = [] := by
        have := congrArg List.length g2
        rw [g1] at this
        simp at this
        exact this
      subst hrs
      rw [List.append_nil] at g1
      subst g1
      have hturn : rules.foldl (ruleE row far) (E.1, E.2.1, false) = turnE row far rules E := rfl
      rw [hturn] at g3 ⊢
      obtain ⟨k', rfl⟩ : ∃ k', k = k' + 1 := ⟨k - 1, by omega⟩
      refine EX.nil ⟨sumE (turnE row far rules E) + (if (turnE row far rules E).2.2 then 1 else 0), ?_, turnE row far rules E, k', hB2, rfl, g3, turn_ok hf rules ok, Eq.refl _, ?_, ?_⟩
      · rcases turn_down hf rules ok with q | ⟨q1, q2⟩
        · rw [q, hb]; show sumE E + 0 < sumE E + 1; omega
        · rw [q2, hb]; simp only [if_true]; omega
      · intro hm
        rcases turn_down hf rules ok with q | ⟨q1, q2⟩
        · rw [q] at hm; cases hm
        · omega
      · rw [iterE] at hE
        exact hE
  · rw [hb] at hE
    have hE' : E = fin := hE
    subst hE'
    refine EX.cons (EX1.retOwn (EV.sub (EV.local rfl hB.2.2.2) EV.cstr (Ix.dict rfl)) (show (ap, MO.list _) ∈ ownE ap aq E from List.mem_cons_of_mem _ List.mem_cons_self) (.inl rfl))
end Mine

/-! F1f -/
namespace Mine
open PySem PySem.W PySem.Calls PyProof.Rows PySem.Challenge PySem.Builtin
set_option Elab.async false
set_option maxRecDepth 100000

def methOf (p : Program) (i j : Nat) : Str × Arguments × List Stmt × Scope := match p.main.body[i]? with
  | some (.ClassDef _ _ _ body _ _ _ _ _ _ _) => (match body[j]? with
    | some (.FunctionDef n a b _ _ _ s _ _ _) => (n, a, b, s)
    | _ => default)
  | _ => default
abbrev nameCode : List Nat := [14, 10, 4, 1, 1, 22, 0, 31, 16, 127, 0, 13, 7, 22, 0, 31, 16, 127, 0, 1]
abbrev valueCode : List Nat := [14, 14, 4, 1, 1, 9, 4294966783, 0, 0, 2147483648, 0, 0, 0, 0, 0, 13, 11, 9, 4294966783, 0, 0, 2147483648, 0, 0, 0, 0, 0, 1]
theorem none_name {l : List Nat} (h : ∀ c ∈ l, 32 ≤ c ∧ c ≠ 127) : NoneIn nameCode.toArray l := fun c hc seen => by
  obtain ⟨h1, h2⟩ := h c hc
  refine ⟨?w, ?h⟩
  case h =>
  show Sre.inSet nameCode.toArray c 20 5 true seen = _
  unfold Sre.inSet
  show (if (decide (0 ≤ c) && decide (c ≤ 31)) = true then _ else _) = _
  rw [if_neg (by simp; omega)]
  unfold Sre.inSet
  show (if (c == 127) = true then _ else _) = _
  rw [if_neg (by simpa using h2)]
  rfl
theorem none_value {l : List Nat} (h : ∀ c ∈ l, 32 ≤ c ∧ c < 127) : NoneIn valueCode.toArray l := fun c hc seen => by
  obtain ⟨h1, h2⟩ := h c hc
  refine ⟨?w, ?h⟩
  case h =>
  show Sre.inSet valueCode.toArray c 28 5 true seen = _
  unfold Sre.inSet
  show (if (decide (c < 256) && (valueCode.toArray.getD (5 + (1 + c / 32)) 0).testBit (c % 32)) = true then _ else _) = _
  have : ∀ d, d < 127 → 32 ≤ d → (valueCode.toArray.getD (5 + (1 + d / 32)) 0).testBit (d % 32) = false := by decide
  rw [this c h2 h1, Bool.and_false, if_neg (by decide)]
  rfl
theorem Tr.none {C : Cx} {V : Vars} {M : Owns} : Tr C V M .none false := fun ok B a s Q E hE tk r k => by cases r; exact PyProof.Rows.truthy_none (k s.heap s.toks .rfl)
/-- what the text's names stand for -/
structure HdrG (mg : Str → Option Value) (K : List (Addr × Obj)) (an tn av tv : Addr) : Prop where
  ty : mg "type" = none
  st : mg "str" = none
  nm : mg "_name_disallowed_re" = some (.ref an)
  vl : mg "_value_disallowed_re" = some (.ref av)
  pn : PatAt K an tn nameCode
  pv : PatAt K av tv valueCode
def Plain (x : Str) : Prop := (∀ c ∈ x.cps.toList, 32 ≤ c ∧ c < 127) ∧ x.length ≤ 100000
theorem convert_ok {prog : Program} {w : World} {mg mb : Str → Option Value} {K : List (Addr × Obj)} {f : Addr} {mod code : Value} {an tn av tv Cl : Addr} (hd : IsDef K f (fdOf "Headers._convert_string_type" (methOf pw_re0170_01 62 1) .none mod code)) (G : HdrG mg K an tn av tv)
    {p : PV} {x : Str} (hx : Plain x) {b : Bool} : FnOk prog w mg mb K f [.inst Cl p, .str x] [("name", .bool b)] (.str x) 1 := by
  refine FnOk.ofM (FnOkM.of_body (names := ["self", "value", "name"]) (ps' := [.inst Cl p, .str x, .bool b]) hd rfl ?_ (by decide) rfl ⟨[], fun _ => rfl, List.nodup_nil⟩ ?_ ?_)
  · intro A E X vs s Q _ _ hr k
    obtain ⟨v0, r, rfl, h0, v1, r', rfl, h1, h2⟩ := hr
    cases h2
    exact wpAny_pure (k [v0, v1, .bool b] s.heap s.toks .rfl rfl ⟨_, _, rfl, h0, _, _, rfl, h1, _, _, rfl, rfl, rfl⟩)
  · intro L x hx
    simp only [List.mem_cons, List.not_mem_nil, or_false] at hx
    rcases hx with rfl | rfl | rfl <;> exact .inl rfl
  intro A L
  refine EX.cons (EX1.ite (b := true) (ET.of_eq (ET.cmp (EV.typeOf (EV.builtin rfl G.ty (by decide +kernel) (by decide)) (EV.local rfl rfl) rfl Ty.str (by decide)) (EV.builtin (v := .type "str") rfl G.st (by decide +kernel) (by decide)) Bi.is_type rfl) (by decide)) (fun _ => ?_) (fun h => nomatch h))
  refine EX.cons (EX1.assign (pv := .at (if b then an else av)) (.inl rfl) (EV.ifExp (ET.val (EV.local rfl rfl) Tr.bool rfl) (fun hb => EV.of_eq (EV.gat G.nm rfl) (by rw [hb]; rfl)) (fun hb => EV.of_eq (EV.gat G.vl rfl) (by rw [hb]; rfl))) rfl ?_)
  refine EX.cons (EX1.ite (b := false) (ET.val (EV.meth (ps := [.str x]) (r := .none) (EV.local rfl rfl) rfl (EVs.cons (EV.local rfl rfl) EVs.nil) mth_search ?_ ?_ rfl rfl (by decide)) Tr.none rfl) (fun h => nomatch h) (fun _ => EX.nil ?_))
  · cases b
    · exact Ty.pat (C := calleeCx prog w mg mb K _ A L f 0) G.pv
    · exact Ty.pat (C := calleeCx prog w mg mb K _ A L f 0) G.pn
  · have hz : x.length < 2 ^ 62 := by have := hx.2; omega
    cases b
    · exact Bn.search_none (C := calleeCx prog w mg mb K _ A L f 0) G.pv (by decide +kernel) (none_value hx.1) hz
    · exact Bn.search_none (C := calleeCx prog w mg mb K _ A L f 0) G.pn (by decide +kernel) (none_name fun c hc => ⟨(hx.1 c hc).1, by have := (hx.1 c hc).2; omega⟩) hz
  exact EX.cons (EX1.ret (EV.local rfl rfl) ⟨.inl rfl, (fun _ q => nomatch q), fun h => absurd rfl h⟩)
end Mine

/-! F1g -/
namespace Mine
open PySem PySem.W PySem.Calls PyProof.Rows PySem.Challenge PySem.Builtin
set_option Elab.async false
set_option maxRecDepth 100000

abbrev rowPV (r : Str × Str) : PV := .tup [.str r.1, .str r.2]
def keepRow (n : Str) : PV → Bool
  | .tup [.str a, _] => Txt.lower a == Txt.lower n
  | _ => false
def sndRow : PV → PV
  | .tup [_, v] => v
  | _ => .none
theorem rows_pick (n : Str) : ∀ rows : List (Str × Str), ((rows.map rowPV).filter (keepRow n)).map sndRow = (rows.filter fun r => Txt.lower r.1 == Txt.lower n).map fun r => PV.str r.2
  | [] => rfl
  | r :: rows => by
    have ih := rows_pick n rows
    rw [List.map_cons]
    by_cases h : (Txt.lower r.1 == Txt.lower n) = true
    · rw [List.filter_cons_of_pos (p := keepRow n) (by exact h), List.filter_cons_of_pos (p := fun r : Str × Str => Txt.lower r.1 == Txt.lower n) h, List.map_cons, List.map_cons, ih]; rfl
    · rw [List.filter_cons_of_neg (p := keepRow n) (by exact h), List.filter_cons_of_neg (p := fun r : Str × Str => Txt.lower r.1 == Txt.lower n) h, ih]
theorem Ix.tup {C : Cx} {V : Vars} {M : Owns} {l : List PV} {i : Nat} {p : PV} (hx : l[i]? = some p) (hl : l.length ≤ 1000) : Ix C V M (.tup l) (.int (i : Nat)) p := fun ok B a b s Q E hE tk r1 r2 k => by
  obtain ⟨a, vs, n, rfl, q, r⟩ := r1; obtain ⟨u, rfl⟩ := r2
  obtain ⟨v, e, rv⟩ := r.get hx
  have hi : i < l.length := (List.getElem?_eq_some_iff.mp hx).1
  have hT : IsTup s.heap a vs.toArray := ⟨_, (vis_get q).1, rfl, n, rfl⟩
  have hlen : vs.toArray.size = l.length := by rw [List.size_toArray, r.len]
  refine ⟨"tuple", _, slot_tuple_getitem.lookup, hT.typeIs, getItem_tuple (j := i) hT (by omega) (by omega) ?_ (by simpa using e) (k v s.heap s.toks .rfl rv)⟩
  rw [hlen]
  unfold seqIndex?
  simp only [show ¬((i : Int) < 0) by omega, if_false]
  rw [if_pos (by simp; omega)]
  simp
theorem getall_ok {prog : Program} {w : World} {mg mb : Str → Option Value} {K : List (Addr × Obj)} {f fc : Addr} {mod code mod' code' : Value} {an tn av tv Cl : Addr} (hd : IsDef K f (fdOf "Headers.get_all" (methOf pw_re0170_01 62 7) .none mod code)) (G : HdrG mg K an tn av tv)
    (hc : IsDef K fc (fdOf "Headers._convert_string_type" (methOf pw_re0170_01 62 1) .none mod' code')) (hm : Meth K Cl "_convert_string_type" fc) (hh : HdrCls K Cl)
    {rows : List (Str × Str)} {n : Str} (hn : Str.tooLong (Txt.lower n).length = false) (hp : Plain (Txt.lower n)) (hr : ∀ r ∈ rows, Str.tooLong (Txt.lower r.1).length = false) (hl : rows.length ≤ 1000) :
    FnOk prog w mg mb K f [.inst Cl (.list (rows.map rowPV)), .str n] [] (.list ((rows.filter fun r => Txt.lower r.1 == Txt.lower n).map fun r => PV.str r.2)) 2 := by
  refine FnOk.of_body (names := ["self", "name"]) hd rfl ?_ (by decide) rfl ⟨["name"], fun _ => rfl, by decide⟩ ?_ ?_
  · intro vs hv
    match vs, hv with
    | [a, b], _ => rfl
  · intro L x hx
    simp only [List.mem_cons, List.not_mem_nil, or_false] at hx
    rcases hx with rfl | rfl
    · exact .inl rfl
    · exact .inr ⟨rfl, rfl⟩
  intro A L
  refine EX.cons (EX1.assign (.inr ⟨rfl, rfl, rfl⟩) (EV.methI (EV.local rfl rfl) hm rfl (EVs.cons (EV.meth (EV.cell rfl rfl) rfl EVs.nil mth_lower Ty.str (Bn.lower hn) rfl rfl (by decide)) EVs.nil) KwOk.bool hc (convert_ok hc G hp) (Nat.le_refl 1) rfl rfl (by decide)) rfl ?_)
  refine EX.cons (EX1.ret (pv := .list (((rows.map rowPV).filter (keepRow n)).map sndRow)) ?_ (.inl (by rw [rows_pick])))
  refine EV.comp (Vc := [(Str.ofString "name", .str (Txt.lower n))]) ?_ (It.list (EV.attrHdr (EV.local rfl rfl) hh rfl fun P L v h => by obtain ⟨a, vs, n, e, _⟩ := h; exact ⟨a, e⟩)) ?_ ?_ (fun _ => rfl)
  · refine ⟨?_, ?_, rfl, ?_, rfl, ?_⟩
    · intro p hp hk
      simp only [List.mem_cons, List.not_mem_nil, or_false] at hp
      rcases hp with rfl | rfl | rfl <;> first | (cases hk; done) | rfl
    · intro y hy hk
      simp only [List.mem_cons, List.not_mem_nil, or_false] at hy
      rcases hy with rfl | rfl | rfl <;> cases hk
    · intro y hy hk
      simp only [List.mem_cons, List.not_mem_nil, or_false] at hy
      rcases hy with rfl | rfl | rfl <;> first | (cases hk; done) | rfl
    · intro y pv e
      rw [lookup_cons_of] at e
      by_cases q : y = Str.ofString "name"
      · subst q
        rw [if_pos rfl] at e
        cases e
        exact ⟨rfl, rfl, rfl, rfl⟩
      · rw [if_neg q] at e; cases e
  · rw [List.length_map]; exact le_size (by omega)
  · intro Ca p hp
    obtain ⟨r, hr', rfl⟩ := List.mem_map.mp hp
    refine ⟨CT.one ?_, fun _ => ?_⟩
    · exact ET.cmp (EV.meth (EV.sub (EV.local rfl rfl) EV.cint (Ix.tup (i := 0) rfl (by simp))) rfl EVs.nil mth_lower Ty.str (Bn.lower (hr r hr')) rfl rfl (by decide)) (EV.cell rfl rfl) Bi.eq_str rfl
    · exact EV.sub (EV.local rfl rfl) EV.cint (Ix.tup (i := 1) rfl (by simp))
end Mine

/-! F1h -/
namespace Mine
open PySem PySem.W PySem.Calls PyProof.Rows PySem.Challenge PySem.Builtin
set_option Elab.async false
set_option maxRecDepth 100000

theorem init_ok {prog : Program} {w : World} {mg mb : Str → Option Value} {K : List (Addr × Obj)} {f : Addr} {mod code : Value} {Cl da x dx L : Addr} (hd : IsDef K f (fdOf "Headers.__init__" (methOf pw_re0170_01 62 0) (.ref da) mod code))
    (hda : ∃ n, (da, ({ cls := .type "tuple", data := .seq #[.none] n } : Obj)) ∈ K) (hty : mg "type" = none) (hli : mg "list" = none) {Kf : List (Addr × Obj)} (hKf : ∀ p ∈ Kf, p ∈ K) (hs : HdrSet Kf Cl) :
    FnOkM prog w mg mb ((x, instObj Cl dx) :: K) f [.at x, .at L] [] [(dx, .dict []), (L, .list [])] .none [(dx, .dict [(hdrName, .at L)]), (L, .list [])] 1 := by
  have hd' : IsDef ((x, instObj Cl dx) :: K) f (fdOf "Headers.__init__" (methOf pw_re0170_01 62 0) (.ref da) mod code) := by
    obtain ⟨o, hK, ho, hclo, hgl, hbl, hkd, hgen, hco, c, oc, cvs, ct, hc1, hc2, hc3, hc4⟩ := hd
    exact ⟨o, List.mem_cons_of_mem _ hK, ho, hclo, hgl, hbl, hkd, hgen, hco, c, oc, cvs, ct, hc1, List.mem_cons_of_mem _ hc2, hc3, hc4⟩
  refine FnOkM.of_body (names := ["self", "headers"]) (ps' := [.at x, .at L]) hd' rfl ?_ (by decide) rfl ⟨[], fun _ => rfl, List.nodup_nil⟩ ?_ ?_
  · intro A E X vs s Q G _ hr k
    obtain ⟨v0, r, rfl, h0, v1, r', rfl, h1, h2⟩ := hr
    cases h2
    obtain ⟨n, hda⟩ := hda
    have q := G.k _ (List.mem_cons_of_mem _ hda)
    show wpAny _ _ (seqItems? (.ref da) >>= _) _ _ _
    refine wpAny_bind (wpAny_seqItems q rfl ?_)
    exact wpAny_pure (k [v0, v1] s.heap s.toks .rfl rfl ⟨_, _, rfl, h0, _, _, rfl, h1, rfl⟩)
  · intro L x hx
    simp only [List.mem_cons, List.not_mem_nil, or_false] at hx
    rcases hx with rfl | rfl <;> exact .inl rfl
  intro A L'
  have hmL : (L, MO.list []) ∈ ([(dx, .dict []), (L, .list [])] : Owns) := List.mem_cons_of_mem _ List.mem_cons_self
  refine EX.cons (EX1.assign (pv := .at L) (.inl rfl) (EV.ifExp (b := true) (ET.cmp (EV.local rfl rfl) EV.cnone (Bi.isNot_none fun P L v h => by cases h; intro z; cases z) rfl) (fun _ => EV.local rfl rfl) (fun h => nomatch h)) rfl ?_)
  refine EX.cons (EX1.ite (b := false) (ET.of_eq (ET.cmp (EV.typeOf (EV.builtin rfl hty (by decide +kernel) (by decide)) (EV.local rfl rfl) rfl (Ty.own hmL) (by decide)) (EV.builtin (v := .type "list") rfl hli (by decide +kernel) (by decide)) Bi.isNot_type rfl) (by decide)) (fun h => nomatch h) (fun _ => EX.nil ?_))
  refine EX.cons (EX1.storeHdr (M₁ := []) (M₂ := [(L, .list [])]) (EV.local rfl rfl) (EV.local rfl rfl) List.mem_cons_self (fun p hp => List.mem_cons_of_mem _ (hKf p hp)) hs rfl ?_)
  refine EX.cons (EX1.ite (b := true) ?_ (fun _ => ?_) (fun h => nomatch h))
  · exact ET.val EV.cbool Tr.bool rfl
  refine EX.cons (EX1.forOwnNil (EV.local rfl rfl) (List.mem_cons_of_mem _ List.mem_cons_self) (EX.nil ?_) (fun _ => rfl))
  exact EX.nil ⟨.inr ⟨rfl, rfl⟩, fun p hp => hp, fun _ => Scalar.none⟩

theorem Bn.joinOwn {C : Cx} {V : Vars} {M : Owns} {x : Str} {a : Addr} {texts : List Str} (hm : (a, MO.list (texts.map .str)) ∈ M) (hk : JoinOk x texts = true) : Bn C V M "str.join" [.str x, .at a] (.str (Txt.join x texts)) := fun ok B vs s Q E hE tk r k => by
  obtain ⟨v, r', rfl, ⟨t, rfl⟩, v', r'', rfl, rfl, h2⟩ := r; cases h2
  obtain ⟨⟨ws, n, q, r⟩, _⟩ := hE.own _ hm
  obtain ⟨l, rfl, e⟩ := RepL.strs r
  exact SC.join (s := s) (listObj_of q) e hk fun t' k' => k _ s.heap k' .rfl ⟨_, rfl⟩
theorem add_ok {prog : Program} {w : World} {mg mb : Str → Option Value} {K : List (Addr × Obj)} {f fc : Addr} {mod code mod' code' : Value} {an tn av tv Cl L : Addr} (hd : IsDef K f (fdOf "Headers.add_header" (methOf pw_re0170_01 62 16) .none mod code)) (G : HdrG mg K an tn av tv)
    (hc : IsDef K fc (fdOf "Headers._convert_string_type" (methOf pw_re0170_01 62 1) .none mod' code')) (hm : Meth K Cl "_convert_string_type" fc) (hh : HdrCls K Cl)
    {l : List PV} (hl : l.length ≤ 1000) {n v : Str} (hn : Plain n) (hv : Plain v) :
    FnOkM prog w mg mb K f [.inst Cl (.at L), .str n, .str v] [] [(L, .list l)] .none [(L, .list (l ++ [.tup [.str n, .str v]]))] 2 := by
  refine FnOkM.of_body (names := ["self", "_name", "_value", "_params"]) (ps' := [.inst Cl (.at L), .str n, .str v, .dict []]) hd rfl ?_ (by decide) rfl ⟨[], fun _ => rfl, List.nodup_nil⟩ ?_ ?_
  · intro A E X vs s Q G hX hr k
    obtain ⟨v0, r, rfl, h0, v1, r', rfl, h1, v2, r2, rfl, h2, h3⟩ := hr
    cases h3
    show wpAny _ _ (alloc emptyDict >>= fun d => pure [(Str.ofString "self", v0), (Str.ofString "_name", v1), (Str.ofString "_value", v2), (Str.ofString "_params", .ref d)]) _ _ _
    have e0 := get_size s.heap
    have hsm : (s.heap.objs.size == sysModules) = false := by
      have : mainGlobals < s.heap.objs.size := by obtain ⟨o, es, ep, e, _⟩ := G.g; exact Heap.lt_size e
      have h3 : (3 : Nat) < s.heap.objs.size := this
      have : s.heap.objs.size ≠ 1 := by omega
      simpa [sysModules] using this
    refine wpAny_bind (wpAny_alloc (wpAny_pure (k [v0, v1, v2, .ref s.heap.objs.size] (s.heap.push emptyDict) s.toks (Keep.rfl.push _) rfl ?_)))
    have kp : Keep s.heap (s.heap.push emptyDict) := Keep.rfl.push _
    refine ⟨_, _, rfl, h0.get (vis_keep kp), _, _, rfl, h1.get (vis_keep kp), _, _, rfl, h2.get (vis_keep kp), _, _, rfl, ⟨_, [], 0, rfl, hsm, vis_of (Heap.get?_push_size _ rfl) fun z => ?_, rfl⟩, rfl⟩
    obtain ⟨o, e⟩ := hX _ z
    rw [e0] at e; cases e
  · intro L x hx
    simp only [List.mem_cons, List.not_mem_nil, or_false] at hx
    rcases hx with rfl | rfl | rfl | rfl <;> exact .inl rfl
  intro A L'
  refine EX.cons (EX1.newList (.inl rfl) fun pa => ?_)
  refine EX.cons (EX1.ite (b := true) (ET.cmp (EV.local rfl rfl) EV.cnone (Bi.isNot_none fun P L v h => by obtain ⟨t, rfl⟩ := h; intro z; cases z) rfl) (fun _ => ?_) (fun h => nomatch h))
  refine EX.cons (EX1.assign (.inl rfl) (EV.methI (EV.local rfl rfl) hm rfl (EVs.cons (EV.local rfl rfl) EVs.nil) KwOk.bool hc (convert_ok hc G hv) (Nat.le_refl 1) rfl rfl (by decide)) rfl ?_)
  refine EX.cons (EX1.appendG (M₁ := []) (M₂ := [(L, .list l)]) (EV.local rfl rfl) rfl (EV.local rfl rfl) (Nat.zero_le _) rfl rfl rfl rfl ?_)
  refine EX.nil ?_
  refine EX.cons (EX1.forItemsNil (EV.local rfl rfl) ?_ rfl rfl (fun _ => rfl))
  refine EX.cons (EX1.appendG (M₁ := [(pa, .list [.str v])]) (M₂ := []) (EV.attrHdr (EV.local rfl rfl) hh rfl fun P L v h => by cases h; exact ⟨_, rfl⟩) rfl
    (EV.tuple rfl (EVs.cons (EV.methI (EV.local rfl rfl) hm rfl (EVs.cons (EV.local rfl rfl) EVs.nil) KwOk.bool hc (convert_ok hc G hn) (Nat.le_refl 1) rfl rfl (by decide))
      (EVs.cons (EV.meth EV.cstr rfl (EVs.cons (EV.local rfl rfl) EVs.nil) mth_join Ty.str (Bn.joinOwn (texts := [v]) List.mem_cons_self ?_) rfl rfl (by decide)) EVs.nil)) (by decide)) (le_size (by omega)) rfl rfl rfl rfl ?_)
  · have h2 := hv.2
    have h3 : Str.length (Str.ofString "; ") = 2 := by decide +kernel
    simp only [JoinOk, Bool.not_eq_true', List.foldl_toArray', List.foldl_cons, List.foldl_nil, h3]
    show decide _ = false
    exact decide_eq_false (by show ¬ _ > _; simp [sizeLine]; omega)
  · refine EX.nil ⟨.inr ⟨rfl, rfl⟩, fun p hp => ?_, fun _ => Scalar.none⟩
    rw [List.mem_singleton.mp hp]
    exact List.mem_cons_of_mem _ List.mem_cons_self
end Mine

/-! F1i -/
namespace Mine
open PySem PySem.W PySem.Calls PyProof.Rows PySem.Challenge PySem.Builtin
set_option Elab.async false
set_option maxRecDepth 100000
set_option maxHeartbeats 4000000

abbrev spPV (sp : List (Str × Str)) : List (Str × PV) := sp.map fun e => (e.1, PV.str e.2)
def spell (sp : List (Str × Str)) (s : Str) : Str := (sp.lookup s).getD s
def spellPV (sp : List (Str × Str)) : PV → PV
  | .str s => .str (spell sp s)
  | p => p
theorem sp_lookup (sp : List (Str × Str)) (s : Str) : ((spPV sp).lookup s).getD (.str s) = .str (spell sp s) := by
  unfold spell
  induction sp with
  | nil => rfl
  | cons e sp ih =>
    obtain ⟨a, b⟩ := e
    show (List.lookup s ((a, PV.str b) :: spPV sp)).getD _ = PV.str ((List.lookup s ((a, b) :: sp)).getD s)
    rw [lookup_cons_of, lookup_cons_of]
    split
    · rfl
    · exact ih
def valOf (sp : List (Str × Str)) (body : Str) : Str := Txt.join "" (body.cps.toList.map fun c => spell sp ⟨#[c]⟩)
def upIf (b : Bool) (s : Str) : Str := if b then Txt.upper s else s
def bit (x k : Int) : Bool := (x.fdiv k).fmod 2 == 1
/-- the row of one rule -/
def rowOf (sp : List (Str × Str)) (e : Int × Str × Str) : Str × Str := (upIf (bit e.1 1152) e.2.1, upIf (bit e.1 2304) (valOf sp e.2.2))
structure RowOk (sp : List (Str × Str)) (e : Int × Str × Str) : Prop where
  j : JoinOk "" (e.2.2.cps.toList.map fun c => spell sp ⟨#[c]⟩) = true
  z : e.2.2.cps.toList.length ≤ 1000
  uv : Str.tooLong (Txt.upper (valOf sp e.2.2)).length = false
  un : Str.tooLong (Txt.upper e.2.1).length = false
  pn : Plain (rowOf sp e).1
  pv : Plain (rowOf sp e).2

theorem rules_fn_ok {prog : Program} {w : World} {mg mb : Str → Option Value} {K : List (Addr × Obj)} {f fI fA fc : Addr} {mod code modI codeI modA codeA' mod' code' : Value} {an tn av tv Cl da : Addr} (hd : IsDef K f (fdOf "_law_rules" (parts pw_re0170_01 65) .none mod code)) (G : HdrG mg K an tn av tv)
    (hI : IsDef K fI (fdOf "Headers.__init__" (methOf pw_re0170_01 62 0) (.ref da) modI codeI)) (hda : ∃ n, (da, ({ cls := .type "tuple", data := .seq #[.none] n } : Obj)) ∈ K) (hli : mg "list" = none) (hz : mg "zip" = none)
    (hA : IsDef K fA (fdOf "Headers.add_header" (methOf pw_re0170_01 62 16) .none modA codeA')) (hmA : Meth K Cl "add_header" fA)
    (hc : IsDef K fc (fdOf "Headers._convert_string_type" (methOf pw_re0170_01 62 1) .none mod' code')) (hm : Meth K Cl "_convert_string_type" fc) (hh : HdrCls K Cl) (hs : HdrSet K Cl) (hmk : HdrMake K Cl fI) (hH : mg "Headers" = some (.ref Cl))
    {sp : List (Str × Str)} {es : List (Int × Str × Str)} (hes : ∀ e ∈ es, RowOk sp e) (hl : es.length ≤ 900) {tl : List PV} :
    FnOk prog w mg mb K f [.list ((es.map fun e => .int e.1) ++ tl), .list (es.map fun e => rowPV e.2), .dict (spPV sp)] [] (.inst Cl (.list (es.map fun e => rowPV (rowOf sp e)))) 3 := by
  refine FnOk.of_body (names := ["draws", "drawn", "spelled"]) hd rfl ?_ (by decide) rfl ⟨["spelled"], fun _ => rfl, by decide⟩ ?_ ?_
  · intro vs hv
    match vs, hv with
    | [a, b, c], _ => rfl
  · intro L x hx
    simp only [List.mem_cons, List.not_mem_nil, or_false] at hx
    rcases hx with rfl | rfl | rfl
    · exact .inl rfl
    · exact .inl rfl
    · exact .inr ⟨rfl, rfl⟩
  intro A L
  refine EX.cons ?_
  refine EX1.makeHdr (fI := fI) (d := 1) ?_ ?_ hmk ?_ ?_ ?_ fun Lr => ?_
  · exact .inl rfl
  · exact EV.gref hH rfl
  · exact fun x dx L => init_ok hI hda G.ty hli (fun p hp => hp) hs
  · exact Nat.le_refl 2
  · rfl
  refine EX.cons (EX1.forP (fun done V' M' => ∃ dn rs : List (Int × Str × Str), es = dn ++ rs ∧ done = (dn.map fun e => (PV.int e.1, rowPV e.2)) ∧ M' = [(Lr, .list (dn.map fun e => rowPV (rowOf sp e)))] ∧ vat V' "rules" = some (.inst Cl (.at Lr)) ∧ vat V' "spelled" = some (.dict (spPV sp))) rfl rfl
    (ItP.zip (EV.builtin rfl hz (by decide +kernel) (by decide)) (EV.local rfl rfl) (EV.local rfl rfl) rfl) ⟨[], es, rfl, rfl, rfl, rfl, rfl⟩ ?_ ?_ (fun _ => rfl))
  · rintro done p q rest V' M' hit ⟨dn, rs, d1, rfl, rfl, d4, d5⟩
    have hzip : ∀ l : List (Int × Str × Str), ((l.map fun e => PV.int e.1) ++ tl).zip (l.map fun e => rowPV e.2) = l.map fun e => (PV.int e.1, rowPV e.2) := fun l => by
      induction l with
      | nil => exact List.zip_nil_right
      | cons a l ih => rw [List.map_cons, List.map_cons, List.cons_append, List.zip_cons_cons, ih]; rfl
    rw [hzip, d1] at hit
    cases rs with
    | nil =>
      exfalso
      have := congrArg List.length hit
      simp at this
    | cons e rs =>
      have hpq : (p, q) = (PV.int e.1, rowPV e.2) := by
        rw [List.map_append, List.map_cons] at hit
        exact ((List.append_cancel_left hit) |> List.cons.inj).1.symm
      obtain ⟨rfl, rfl⟩ := Prod.mk.inj hpq
      have R := hes e (by rw [d1]; simp)
      have hdl : dn.length ≤ 900 := by
        have := congrArg List.length d1
        rw [List.length_append] at this
        omega
      have hnil : Str.ofString "" = ⟨#[]⟩ := by decide +kernel
      refine EX.cons (EX1.assignPair (.inl rfl) (.inl rfl) (EV.local rfl rfl) rfl rfl ?_)
      have hmap : ((e.2.2.cps.toList.map fun c => PV.str ⟨#[c]⟩).filter fun _ => true).map (spellPV sp) = (e.2.2.cps.toList.map fun c => spell sp ⟨#[c]⟩).map .str := by
        rw [List.filter_eq_self.mpr (fun _ _ => rfl), List.map_map, List.map_map]; rfl
      refine EX.cons (EX1.assign (pv := .str (valOf sp e.2.2)) (.inl rfl) (EV.meth EV.cstr rfl (EVs.cons (EV.of_eq (EV.comp (kp := fun _ => true) (f := spellPV sp) (Vc := [(Str.ofString "spelled", .dict (spPV sp))]) ?_ (It.str (EV.local rfl rfl)) ?_ ?_ (fun _ => rfl)) (congrArg PV.list hmap)) EVs.nil) mth_join Ty.str (Bn.join R.j) rfl rfl (by decide)) rfl ?_)
      · refine ⟨?_, ?_, rfl, ?_, rfl, ?_⟩
        · intro p hp hk
          simp only [List.mem_cons, List.not_mem_nil, or_false] at hp
          rcases hp with rfl | rfl | rfl <;> first | (cases hk; done) | rfl
        · intro y hy hk
          simp only [List.mem_cons, List.not_mem_nil, or_false] at hy
          rcases hy with rfl | rfl | rfl <;> cases hk
        · intro y hy hk
          simp only [List.mem_cons, List.not_mem_nil, or_false] at hy
          rcases hy with rfl | rfl | rfl <;> first | (cases hk; done) | rfl
        · intro y pv ee
          rw [lookup_cons_of] at ee
          by_cases q : y = Str.ofString "spelled"
          · subst q
            rw [if_pos rfl] at ee
            cases ee
            exact ⟨lk (lk (lk (lk d5))), rfl, rfl, rfl⟩
          · rw [if_neg q] at ee; cases ee
      · rw [List.length_map]; exact le_size (by have := R.z; omega)
      · intro Ca p hp
        obtain ⟨c, _, rfl⟩ := List.mem_map.mp hp
        refine ⟨CT.nil, fun _ => ?_⟩
        exact EV.of_eq (EV.meth (EV.cell rfl rfl) rfl (EVs.cons (EV.local rfl rfl) (EVs.cons (EV.local rfl rfl) EVs.nil)) mth_get Ty.dict Bn.get2 rfl rfl (by decide)) (sp_lookup sp _)
      refine EX.cons (EX1.ite (b := bit e.1 2304) (ET.cmp (EV.bin (EV.bin (EV.local rfl rfl) EV.cint (Bi.divC (by decide) (by decide))) EV.cint (Bi.mod_int (by decide))) EV.cint Bi.eq_int rfl) (fun hb => ?_) (fun hb => EX.nil ?_))
      · refine EX.cons (EX1.assign (.inl rfl) (EV.meth (EV.local rfl rfl) rfl EVs.nil mth_upper Ty.str (Bn.upper R.uv) rfl rfl (by decide)) rfl (EX.nil ?_))
        have hv : Txt.upper (valOf sp e.2.2) = (rowOf sp e).2 := by unfold rowOf upIf; rw [hb]; rfl
        rw [hv]

        refine EX.cons (EX1.methM (M₁ := []) (M₂ := []) (ps := [.str (rowOf sp e).1, .str (rowOf sp e).2]) (EV.local rfl (lk (lk (lk (lk (lk (lk d4))))))) hmA rfl
          (EVs.cons (EV.of_eq (EV.ifExp (b := bit e.1 1152) (p := .str (rowOf sp e).1) (ET.cmp (EV.bin (EV.bin (EV.local rfl rfl) EV.cint (Bi.divC (by decide) (by decide))) EV.cint (Bi.mod_int (by decide))) EV.cint Bi.eq_int rfl)
            (fun hb => EV.of_eq (EV.meth (EV.local rfl rfl) rfl EVs.nil mth_upper Ty.str (Bn.upper R.un) rfl rfl (by decide)) (by unfold rowOf upIf; rw [hb]; rfl)) (fun hb => EV.of_eq (EV.local rfl rfl) (by unfold rowOf upIf; rw [hb]; rfl))) rfl)
            (EVs.cons (EV.local rfl rfl) EVs.nil))
          hA (add_ok hA G hc hm hh (by rw [List.length_map]; omega) R.pn R.pv) (Nat.le_refl 2) rfl rfl (by decide) rfl rfl (EX.nil ⟨dn ++ [e], rs, by rw [d1]; simp, by simp, by simp, (lk (lk (lk (lk (lk (lk d4)))))), (lk (lk (lk (lk (lk (lk d5))))))⟩))
      · have hv : valOf sp e.2.2 = (rowOf sp e).2 := by unfold rowOf upIf; rw [hb]; rfl
        rw [hv]

        refine EX.cons (EX1.methM (M₁ := []) (M₂ := []) (ps := [.str (rowOf sp e).1, .str (rowOf sp e).2]) (EV.local rfl (lk (lk (lk (lk (lk d4)))))) hmA rfl
          (EVs.cons (EV.of_eq (EV.ifExp (b := bit e.1 1152) (p := .str (rowOf sp e).1) (ET.cmp (EV.bin (EV.bin (EV.local rfl rfl) EV.cint (Bi.divC (by decide) (by decide))) EV.cint (Bi.mod_int (by decide))) EV.cint Bi.eq_int rfl)
            (fun hb => EV.of_eq (EV.meth (EV.local rfl rfl) rfl EVs.nil mth_upper Ty.str (Bn.upper R.un) rfl rfl (by decide)) (by unfold rowOf upIf; rw [hb]; rfl)) (fun hb => EV.of_eq (EV.local rfl rfl) (by unfold rowOf upIf; rw [hb]; rfl))) rfl)
            (EVs.cons (EV.local rfl rfl) EVs.nil))
          hA (add_ok hA G hc hm hh (by rw [List.length_map]; omega) R.pn R.pv) (Nat.le_refl 2) rfl rfl (by decide) rfl rfl (EX.nil ⟨dn ++ [e], rs, by rw [d1]; simp, by simp, by simp, (lk (lk (lk (lk (lk d4))))), (lk (lk (lk (lk (lk d5)))))⟩))
  · rintro V' M' ⟨dn, rs, d1, d2, rfl, d4, d5⟩
    have hrs : rs = [] := by
      have := congrArg List.length d2
      rw [d1] at this
      simp at this
      exact this
    subst hrs
    rw [List.append_nil] at d1
    subst d1
    exact EX.cons (EX1.retView (EV.local rfl d4) (.inr (.inr ⟨Cl, Lr, _, rfl, List.mem_singleton.mpr rfl, rfl⟩)) (.inl rfl))
end Mine

/-! F1j -/
namespace Mine
open PySem PySem.W PySem.Calls PyProof.Rows PySem.Challenge PySem.Builtin
set_option Elab.async false
set_option maxRecDepth 100000
set_option maxHeartbeats 4000000

theorem isT_ok {prog : Program} {w : World} {mg mb : Str → Option Value} {K : List (Addr × Obj)} {f : Addr} {mod code : Value} {t : Tok} (hd : IsDef K f (fdOf "ISTERMINAL" (parts pw_re0170_01 53) .none mod code)) (hg : mg "NT_OFFSET" = some (.int 256 t)) (i : Int) :
    FnOk prog w mg mb K f [.int i] [] (.bool (decide (i < 256))) 1 := by
  refine FnOk.of_body (names := ["x"]) hd rfl ?_ (by decide) rfl ⟨[], fun _ => rfl, List.nodup_nil⟩ ?_ ?_
  · intro vs hv
    match vs, hv with
    | [a], _ => rfl
  · intro L x hx
    rw [List.mem_singleton.mp hx]
    exact .inl rfl
  · intro A L
    exact EX.cons (EX1.ret (EV.cmp (EV.local rfl rfl) (EV.gint hg rfl) Bi.lt_int rfl) (.inl rfl))

def partS (D : List (Str × PV)) (p : Str) : Str := if (D.lookup p).isSome then (" " ++ p) ++ " " else Txt.lower p
structure PieceOk (p : Str) : Prop where
  ne : 0 < p.length
  z : p.length ≤ 1000
  lo : Str.tooLong (Txt.lower p).length = false
theorem tok_of {D : List (Str × PV)} (hDv : ∀ e ∈ D, ∃ i : Int, e.2 = .int i ∧ i < 256) (p : Str) (c : Nat) : ∃ i : Int, (D.lookup p).getD (.int (256 + (c : Int))) = .int i ∧ decide (i < 256) = (D.lookup p).isSome := by
  cases h : D.lookup p with
  | none => exact ⟨_, rfl, decide_eq_false (by omega)⟩
  | some v =>
    obtain ⟨i, e, hi⟩ := hDv (p, v) (mem_of_lookup h)
    exact ⟨i, e, decide_eq_true hi⟩
theorem rowsfn_ok {prog : Program} {w : World} {mg mb : Str → Option Value} {K : List (Addr × Obj)} {f fG fc fP fT ae : Addr} {mod code modG codeG mod' code' modP codeP modT codeT : Value} {an tn av tv Cl : Addr} {tt : Tok} {D : List (Str × PV)} (hd : IsDef K f (fdOf "_law_rows" (parts pw_re0170_01 67) .none mod code)) (G : HdrG mg K an tn av tv)
    (hG : IsDef K fG (fdOf "Headers.get_all" (methOf pw_re0170_01 62 7) .none modG codeG)) (hmG : Meth K Cl "get_all" fG)
    (hc : IsDef K fc (fdOf "Headers._convert_string_type" (methOf pw_re0170_01 62 1) .none mod' code')) (hm : Meth K Cl "_convert_string_type" fc) (hh : HdrCls K Cl)
    (hP : IsDef K fP (fdOf "_law_pieces" (parts pw_re0170_01 66) .none modP codeP)) (hgP : mg "_law_pieces" = some (.ref fP))
    (hT : IsDef K fT (fdOf "ISTERMINAL" (parts pw_re0170_01 53) .none modT codeT)) (hgT : mg "ISTERMINAL" = some (.ref fT)) (hNT : mg "NT_OFFSET" = some (.int 256 tt))
    (hge : mg "EXACT_TOKEN_TYPES" = some (.ref ae)) (hD : GDict w.params K ae D) (hDv : ∀ e ∈ D, ∃ i : Int, e.2 = .int i ∧ i < 256) (hlen : mg "len" = none) (hord : mg "ord" = none)
    {rows : List (Str × Str)} {n : Str} (hn : Str.tooLong (Txt.lower n).length = false) (hp : Plain (Txt.lower n)) (hr : ∀ r ∈ rows, Str.tooLong (Txt.lower r.1).length = false) (hl : rows.length ≤ 1000)
    {vals : List Str} (hv : (rows.filter fun r => Txt.lower r.1 == Txt.lower n).map (·.2) = vals) (hvz : ∀ v ∈ vals, v.length ≤ 1000) (hpc : ∀ v ∈ vals, ∀ p ∈ piecesFrom D v v.length 0, PieceOk p) :
    FnOk prog w mg mb K f [.inst Cl (.list (rows.map rowPV)), .str n] [] (.list (vals.map fun v => .list (((piecesFrom D v v.length 0).map (partS D)).map .str))) 3 := by
  refine FnOk.of_body (names := ["rules", "name"]) hd rfl ?_ (by decide) rfl ⟨[], fun _ => rfl, List.nodup_nil⟩ ?_ ?_
  · intro vs hv
    match vs, hv with
    | [a, b], _ => rfl
  · intro L x hx
    simp only [List.mem_cons, List.not_mem_nil, or_false] at hx
    rcases hx with rfl | rfl <;> exact .inl rfl
  intro A L
  have hvl : vals.length ≤ 1000 := by rw [← hv, List.length_map]; exact Nat.le_trans (List.length_filter_le _ _) hl
  have hvals : (rows.filter fun r => Txt.lower r.1 == Txt.lower n).map (fun r => PV.str r.2) = vals.map .str := by rw [← hv, List.map_map]; rfl
  refine EX.cons (EX1.newList (.inl rfl) fun ra => ?_)
  refine EX.cons (EX1.for (fun done V' M' => ∃ dn rs : List Str, vals = dn ++ rs ∧ done = dn.map .str ∧ M' = [(ra, .list (dn.map fun v => .list (((piecesFrom D v v.length 0).map (partS D)).map .str)))] ∧ vat V' "rows" = some (.at ra)) rfl
    (It.list (EV.of_eq (EV.methI (EV.local rfl rfl) hmG rfl (EVs.cons (EV.local rfl rfl) EVs.nil) KwOk.nil hG (getall_ok hG G hc hm hh hn hp hr hl) (Nat.le_refl 2) rfl rfl (by decide)) (congrArg PV.list hvals))) ⟨[], vals, rfl, rfl, rfl, rfl⟩ ?_ ?_ (fun _ => rfl))
  · rintro done p rest V' M' hit ⟨dn, rs, d1, rfl, rfl, d4⟩
    rw [d1] at hit
    cases rs with
    | nil =>
      exfalso
      have := congrArg List.length hit
      simp at this
    | cons v rs =>
      have hpv : p = .str v := by
        rw [List.map_append, List.map_cons] at hit
        exact ((List.append_cancel_left hit) |> List.cons.inj).1.symm
      subst hpv
      have hvin : v ∈ vals := by rw [d1]; simp
      have hvz' := hvz v hvin
      refine EX.cons (EX1.newList (.inl rfl) fun rw' => ?_)
      refine EX.cons (EX1.for (fun done V3 M3 => ∃ pd ps : List Str, piecesFrom D v v.length 0 = pd ++ ps ∧ done = pd.map .str ∧ M3 = [(rw', .list ((pd.map (partS D)).map .str)), (ra, .list (dn.map fun v => .list (((piecesFrom D v v.length 0).map (partS D)).map .str)))] ∧ vat V3 "rows" = some (.at ra) ∧ vat V3 "row" = some (.at rw')) rfl
        (It.list (EV.callF (EV.gref hgP rfl) rfl (EVs.cons (EV.local rfl rfl) EVs.nil) hP (pieces_ok hP hge hD hlen (by omega)) (by decide : 1 ≤ 2))) ⟨[], _, rfl, rfl, rfl, lk (lk d4), rfl⟩ ?_ ?_ (fun _ => rfl))
      · rintro done p rest V3 M3 hit3 ⟨pd, ps, q1, rfl, rfl, q4, q5⟩
        rw [q1] at hit3
        cases ps with
        | nil =>
          exfalso
          have := congrArg List.length hit3
          simp at this
        | cons pc ps =>
          have hpp : p = .str pc := by
            rw [List.map_append, List.map_cons] at hit3
            exact ((List.append_cancel_left hit3) |> List.cons.inj).1.symm
          subst hpp
          have P := hpc v hvin pc (by rw [q1]; simp)
          have hpdl : pd.length ≤ 1000 := by
            have h1 := pieces_len (D := D) (x := v) v.length 0
            rw [q1, List.length_append] at h1
            omega
          obtain ⟨i, hi1, hi2⟩ := tok_of hDv pc ((Txt.charAt pc 0).getD 0)
          have hs1 : Str.length (Str.ofString " ") = 1 := by decide +kernel
          have hadd : ∀ a b : Str, (a ++ b).length = a.length + b.length := fun a b => by
            show (a.cps ++ b.cps).size = _; rw [Array.size_append]; rfl
          refine EX.cons (EX1.ite (b := (D.lookup pc).isSome) (ET.of_eq (ET.val (EV.callF (EV.gref hgT rfl) rfl (EVs.cons (EV.of_eq (EV.meth (EV.gat hge rfl) rfl (EVs.cons (EV.local rfl rfl) (EVs.cons (EV.bin EV.cint (EV.callB (EV.builtin rfl hord (by decide +kernel) (by decide)) rfl (EVs.cons (EV.sub (EV.local rfl rfl) EV.cint (Ix.strOk (by decide) (by have := P.ne; omega) (by have := P.z; omega))) EVs.nil) Bn.ord) Bi.add_int) EVs.nil)) mth_get (Ty.gdict hD) (Bn.get2_gdict hD) rfl rfl (by decide)) hi1) EVs.nil) hT (isT_ok hT hNT i) (by decide : 1 ≤ 2)) Tr.bool rfl) hi2) (fun hb => ?_) (fun hb => ?_))
          · refine EX.cons (EX1.appendG (M₁ := []) (M₂ := [(ra, _)]) (EV.local rfl (lk q5)) rfl (EV.bin (EV.bin EV.cstr (EV.local rfl rfl) (Bi.add_str (by rw [hs1]; have := P.z; exact le_size (by omega)))) EV.cstr (Bi.add_str (by rw [hadd, hs1]; have := P.z; exact le_size (by omega)))) (by rw [List.length_map, List.length_map]; exact le_size (by omega)) rfl rfl rfl rfl ?_)
            refine EX.nil (EX.nil ⟨pd ++ [pc], ps, by rw [q1]; simp, by simp, ?_, lk q4, lk q5⟩)
            rw [List.map_append, List.map_append]
            unfold partS
            rw [List.map_singleton, hb]
            rfl
          · refine EX.cons (EX1.appendG (M₁ := []) (M₂ := [(ra, _)]) (EV.local rfl (lk q5)) rfl (EV.meth (EV.local rfl rfl) rfl EVs.nil mth_lower Ty.str (Bn.lower P.lo) rfl rfl (by decide)) (by rw [List.length_map, List.length_map]; exact le_size (by omega)) rfl rfl rfl rfl ?_)
            refine EX.nil (EX.nil ⟨pd ++ [pc], ps, by rw [q1]; simp, by simp, ?_, lk q4, lk q5⟩)
            rw [List.map_append, List.map_append]
            unfold partS
            rw [List.map_singleton, hb]
            rfl
      · rintro V3 M3 ⟨pd, ps, q1, q2, rfl, q4, q5⟩
        have hps : ps = [] := by
          have := congrArg List.length q2
          rw [q1] at this
          simp at this
          exact this
        subst hps
        rw [List.append_nil] at q1
        subst q1
        have hdl : dn.length ≤ 1000 := by
          have := congrArg List.length d1
          rw [List.length_append] at this
          omega
        refine XT.giveUp (M₁ := []) (V' := (Str.ofString "row", .list (((piecesFrom D v v.length 0).map (partS D)).map .str)) :: V3) ?_ (fun y p e => ?_)
        · refine EX.cons (EX1.appendG (M₁ := []) (M₂ := []) (EV.local rfl (lk q4)) rfl (EV.local rfl rfl) (by rw [List.length_map]; exact le_size (by omega)) rfl rfl rfl rfl ?_)
          exact EX.nil ⟨dn ++ [v], rs, by rw [d1]; simp, by simp, by simp, lk q4⟩
        · rw [lookup_cons_of] at e
          by_cases q : y = Str.ofString "row"
          · subst q
            rw [if_pos rfl] at e
            cases e
            exact .inr (.inl ⟨q5, rfl⟩)
          · rw [if_neg q] at e; exact .inl e
  · rintro V' M' ⟨dn, rs, d1, d2, rfl, d4⟩
    have hrs : rs = [] := by
      have := congrArg List.length d2
      rw [d1] at this
      simp at this
      exact this
    subst hrs
    rw [List.append_nil] at d1
    subst d1
    exact EX.cons (EX1.retOwn (EV.local rfl d4) (List.mem_singleton.mpr rfl) (.inl rfl))
end Mine

/-! F1k -/
namespace Mine
open PySem PySem.W PySem.Calls PyProof.Rows PySem.Challenge PySem.Builtin
set_option Elab.async false
set_option maxRecDepth 100000
set_option maxHeartbeats 4000000

/-- a part of a rule: a sign or a name -/
inductive Sy where
  | t (s : List Nat)
  | n (c : Nat)
def Sy.str : Sy → Str
  | .t s => ofL (tokL s)
  | .n c => ⟨#[c]⟩
abbrev Gram := Nat → List (List Sy)
def tailsOf (rec : Nat → List (List (List Nat))) (above : List Nat) : Sy → List (List (List Nat))
  | .t s => [[s]]
  | .n d => if above.contains d then [] else rec d
def growOf (tl : Sy → List (List (List Nat))) (row : List Sy) : List (List (List Nat)) := row.foldl (fun g p => g.flatMap fun t => (tl p).map fun u => t ++ u) [[]]
def addText (T : List (List (List Nat))) (t : List (List Nat)) : List (List (List Nat)) := if T.any fun s => s.isSublist t then T else T ++ [t]
def textsOf (g : Gram) : Nat → Nat → List Nat → List (List (List Nat))
  | 0, _, _ => []
  | n + 1, c, above => (g c).foldl (fun T row => (growOf (tailsOf (fun d => textsOf g n d (above ++ [d])) above) row).foldl addText T) []

theorem encS_append (a b : List (List Nat)) : encS (a ++ b) = encS a ++ encS b := by
  apply Str.ext'
  apply Array.toList_inj.mp
  show encL (a ++ b) = (((encL a).toArray ++ (encL b).toArray : Array Nat)).toList
  rw [encL_append]; simp
theorem contains_ch (l : List Nat) (d : Nat) : Txt.contains (ofL l) ⟨#[d]⟩ = l.contains d := by
  have h : Txt.contains (ofL l) ⟨#[d]⟩ = true ↔ l.contains d = true := by
    unfold Txt.contains
    rw [StrLaws.found_iff, List.contains_iff_mem]
    constructor
    · rintro ⟨i, h⟩
      exact List.mem_of_getElem? ((StrLaws.subAt_one _ _ _).mp h)
    · intro h
      obtain ⟨i, hi, e⟩ := List.mem_iff_getElem.mp h
      exact ⟨i, (StrLaws.subAt_one _ _ _).mpr (by show l[i]? = some d; rw [List.getElem?_eq_getElem hi, e])⟩
  cases h1 : Txt.contains (ofL l) ⟨#[d]⟩ <;> cases h2 : l.contains d <;> simp_all
theorem names_look {α : Type} (x y : α) (s : Str) : List.lookup s [((Str.ofString "p"), x), (Str.ofString "q", y)] = if s = ⟨#[112]⟩ then some x else if s = ⟨#[113]⟩ then some y else none := by
  have hp : Str.ofString "p" = ⟨#[112]⟩ := by decide +kernel
  have hq : Str.ofString "q" = ⟨#[113]⟩ := by decide +kernel
  rw [hp, hq, lookup_cons_of, lookup_cons_of, List.lookup_nil]
theorem one_inj {c d : Nat} : ((⟨#[c]⟩ : Str) = ⟨#[d]⟩) ↔ c = d := by
  constructor
  · intro h; have := congrArg (fun s : Str => s.cps.toList) h; simpa using this
  · rintro rfl; rfl
theorem tok_not {s : List Nat} {d : Nat} : ofL (tokL s) ≠ ⟨#[d]⟩ := fun h => by
  have := congrArg (fun s : Str => s.cps.toList.length) h
  simp [tokL] at this
abbrev rowsPV (r : List (List Sy)) : PV := .list (r.map fun row => .list (row.map fun y => .str y.str))
abbrev gPV (g : Gram) : List (Str × PV) := [(Str.ofString "p", rowsPV (g 112)), (Str.ofString "q", rowsPV (g 113))]
def SyOk : Sy → Prop
  | .t s => Sg s
  | .n d => d = 112 ∨ d = 113
theorem look_t (g : Gram) (s : List Nat) : (List.lookup (ofL (tokL s)) (gPV g)).isSome = false := by
  rw [names_look, if_neg tok_not, if_neg tok_not]; rfl
theorem look_name (g : Gram) {c : Nat} (h : c = 112 ∨ c = 113) : List.lookup (⟨#[c]⟩ : Str) (gPV g) = some (rowsPV (g c)) := by
  rw [names_look]
  rcases h with rfl | rfl
  · rw [if_pos rfl]
  · rw [if_neg (by rw [one_inj]; decide), if_pos rfl]
theorem look_n (g : Gram) {c : Nat} (h : c = 112 ∨ c = 113) : (List.lookup (⟨#[c]⟩ : Str) (gPV g)).isSome = true := by rw [look_name g h]; rfl
def catPV : PV → PV → PV
  | .str a, .str b => .str (a ++ b)
  | _, _ => .none
theorem cat_all (G T : List (List (List Nat))) : ((textsPV G).flatMap fun p => (textsPV T).map (catPV p)) = textsPV (G.flatMap fun t => T.map fun u => t ++ u) := by
  induction G with
  | nil => rfl
  | cons t G ih =>
    rw [show textsPV (t :: G) = PV.str (encS t) :: textsPV G from rfl, List.flatMap_cons, ih, List.flatMap_cons]
    simp only [textsPV, List.map_append, List.map_map]
    congr 1
    refine List.map_congr_left fun u _ => ?_
    show PV.str (encS t ++ encS u) = PV.str (encS (t ++ u))
    rw [encS_append]
/-- all stays small -/
structure Small (tl : Sy → List (List (List Nat))) (rows : List (List Sy)) : Prop where
  g : ∀ row ∈ rows, ∀ pre, pre <+: row → (growOf tl pre).length ≤ 1000 ∧ ∀ t ∈ growOf tl pre, (∀ s ∈ t, Sg s) ∧ (encL t).length ≤ 1000
  r : rows.length ≤ 100
theorem grow_snoc (tl : Sy → List (List (List Nat))) (pre : List Sy) (y : Sy) : growOf tl (pre ++ [y]) = (growOf tl pre).flatMap fun t => (tl y).map fun u => t ++ u := by
  unfold growOf; rw [List.foldl_append]; rfl

theorem texts_ok {prog : Program} {w : World} {mg mb : Str → Option Value} {K : List (Addr × Obj)} {f fH fe : Addr} {mod code modH codeH mod' code' : Value} {tt : Tok} (hd : IsDef K f (fdOf "_law_texts" (parts pw_re0170_01 69) .none mod code)) (hgf : mg "_law_texts" = some (.ref f))
    (hH : IsDef K fH (fdOf "_law_held" (parts pw_re0170_01 68) .none modH codeH)) (hgH : mg "_law_held" = some (.ref fH))
    (hde : IsDef K fe (fdOf "_ellipsis_match" (parts pw_re0170_01 56) .none mod' code')) (hge : mg "_ellipsis_match" = some (.ref fe)) (hg : mg "ELLIPSIS_MARKER" = some (.str "..." tt)) (hlen : mg "len" = none)
    {g : Gram} (hgr : ∀ c, ∀ row ∈ g c, ∀ y ∈ row, SyOk y) {c : Nat} (hc : c = 112 ∨ c = 113) {above : List Nat} {rec : Nat → List (List (List Nat))} {d : Nat} (hd3 : 2 ≤ d)
    (hrec : ∀ e, (e = 112 ∨ e = 113) → above.contains e = false → FnOk prog w mg mb K f [.dict (gPV g), .str ⟨#[e]⟩, .str (ofL (above ++ [e]))] [] (.list (textsPV (rec e))) d)
    (hab : above.length ≤ 100) (hsm : Small (tailsOf rec above) (g c)) :
    FnOk prog w mg mb K f [.dict (gPV g), .str ⟨#[c]⟩, .str (ofL above)] [] (.list (textsPV ((g c).foldl (fun T row => (growOf (tailsOf rec above) row).foldl addText T) []))) (d + 1) := by
  refine FnOk.of_body (names := ["grammar", "name", "above"]) hd rfl ?_ (by decide) rfl ⟨["tails"], fun _ => rfl, by decide⟩ ?_ ?_
  · intro vs hv
    match vs, hv with
    | [a, b, c], _ => rfl
  · intro L x hx
    simp only [List.mem_cons, List.not_mem_nil, or_false] at hx
    rcases hx with rfl | rfl | rfl <;> exact .inl rfl
  intro A L
  refine EX.cons (EX1.newList (.inl rfl) fun ta => ?_)
  have hrows : (g c).length ≤ 100 := hsm.r
  let T0 : List (List Sy) → List (List (List Nat)) := fun dn => dn.foldl (fun T row => (growOf (tailsOf rec above) row).foldl addText T) []
  let TOk : List (List (List Nat)) → Nat → Prop := fun T n => T.length ≤ n ∧ ∀ t ∈ T, (∀ s ∈ t, Sg s) ∧ (encL t).length ≤ 1000
  refine EX.cons (EX1.for (fun done V' M' => ∃ dn rs : List (List Sy), g c = dn ++ rs ∧ done = (dn.map fun row => PV.list (row.map fun y => .str y.str)) ∧ M' = [(ta, .list (textsPV (T0 dn)))] ∧ TOk (T0 dn) (1000 * dn.length) ∧ vat V' "texts" = some (.at ta) ∧ vat V' "grammar" = some (.dict (gPV g)) ∧ vat V' "above" = some (.str (ofL above))) rfl
    (It.list (EV.sub (EV.local rfl rfl) (EV.local rfl rfl) (Ix.dict (look_name g hc)))) ⟨[], g c, rfl, rfl, rfl, ⟨Nat.zero_le _, fun _ q => nomatch q⟩, rfl, rfl, rfl⟩ ?_ ?_ (fun _ => rfl))
  · rintro done p rest V' M' hit ⟨dn, rs, d1, rfl, rfl, d3, d4, d5, d6⟩
    rw [d1] at hit
    cases rs with
    | nil =>
      exfalso
      have := congrArg List.length hit
      simp at this
    | cons row rs =>
      have hp : p = PV.list (row.map fun y => .str y.str) := by
        rw [List.map_append, List.map_cons] at hit
        exact ((List.append_cancel_left hit) |> List.cons.inj).1.symm
      subst hp
      have hrow : row ∈ g c := by rw [d1]; simp
      have hdn : dn.length < 100 := by
        have := congrArg List.length d1
        rw [List.length_append, List.length_cons] at this
        omega
      have hbd := hsm.g row hrow
      refine EX.cons (EX1.assign (pv := .list (textsPV [[]])) (.inl rfl) (EV.of_eq (SN.list rfl (EVs.cons EV.cstr EVs.nil) (by decide)).sv (show PV.list [PV.str (Str.ofString "")] = PV.list [PV.str (encS [])] from congrArg (fun z => PV.list [PV.str z]) (by decide +kernel))) rfl ?_)
      refine EX.cons (EX1.for (fun done V3 M3 => ∃ pd ps : List Sy, row = pd ++ ps ∧ done = (pd.map fun y => PV.str y.str) ∧ M3 = [(ta, .list (textsPV (T0 dn)))] ∧ vat V3 "grown" = some (.list (textsPV (growOf (tailsOf rec above) pd))) ∧ vat V3 "texts" = some (.at ta) ∧ vat V3 "grammar" = some (.dict (gPV g)) ∧ vat V3 "above" = some (.str (ofL above))) rfl
        (It.list (EV.local rfl rfl)) ⟨[], row, rfl, rfl, rfl, rfl, lk (lk d4), lk (lk d5), lk (lk d6)⟩ ?_ ?_ (fun _ => rfl))
      · rintro done p rest V3 M3 hit3 ⟨pd, ps, q1, rfl, rfl, q3, q4, q5, q6⟩
        rw [q1] at hit3
        cases ps with
        | nil =>
          exfalso
          have := congrArg List.length hit3
          simp at this
        | cons y ps =>
          have hp : p = PV.str y.str := by
            rw [List.map_append, List.map_cons] at hit3
            exact ((List.append_cancel_left hit3) |> List.cons.inj).1.symm
          subst hp
          have hy : SyOk y := hgr c row hrow y (by rw [q1]; simp)
          have hG := hbd pd ⟨y :: ps, q1.symm⟩
          have hG2 := hbd (pd ++ [y]) ⟨ps, by rw [q1]; simp⟩
          refine EX.cons (XT.mono (K := fun fl V4 M4 => fl = .next ∧ M4 = [(ta, .list (textsPV (T0 dn)))] ∧ vat V4 "tails" = some (.list (textsPV (tailsOf rec above y))) ∧ vat V4 "grown" = some (.list (textsPV (growOf (tailsOf rec above) pd))) ∧ vat V4 "texts" = some (.at ta) ∧ vat V4 "grammar" = some (.dict (gPV g)) ∧ vat V4 "above" = some (.str (ofL above))) ?_ ?_)
          · refine EX1.ite (ET.cmp (EV.local rfl rfl) (EV.local rfl (lk q5)) Bi.notIn_dict rfl) (fun hb => ?_) (fun hb => ?_)
            · cases y with
              | t s =>
                refine EX.cons (EX1.assign (pv := .list (textsPV [[s]])) (.inr ⟨rfl, rfl, rfl⟩) (EV.of_eq (SN.list rfl (EVs.cons (EV.local rfl rfl) EVs.nil) (by decide)).sv ?_) rfl (EX.nil ⟨rfl, rfl, rfl, lk (lk q3), lk (lk q4), lk (lk q5), lk (lk q6)⟩))
                exact (show PV.list [PV.str (ofL (tokL s))] = PV.list [PV.str (encS [s])] from congrArg (fun z => PV.list [PV.str z]) (by simp [encL]))
              | n e => rw [show (Sy.n e).str = (⟨#[e]⟩ : Str) from rfl, look_n g hy] at hb; cases hb
            · cases y with
              | t s => rw [show (Sy.t s).str = ofL (tokL s) from rfl, look_t g s] at hb; cases hb
              | n e =>
                refine EX.cons (EX1.ite (b := above.contains e) (ET.of_eq (ET.cmp (EV.local rfl rfl) (EV.local rfl (lk q6)) Bi.in_str rfl) (contains_ch above e)) (fun hb2 => ?_) (fun hb2 => ?_))
                · refine EX.cons (EX1.assign (pv := .list []) (.inr ⟨rfl, rfl, rfl⟩) (SN.list rfl EVs.nil (by decide)).sv rfl (EX.nil (EX.nil ⟨rfl, rfl, ?_, lk (lk q3), lk (lk q4), lk (lk q5), lk (lk q6)⟩)))
                  exact congrArg (fun T => some (PV.list (textsPV T))) (show ([] : List (List (List Nat))) = tailsOf rec above (.n e) from (if_pos hb2).symm)
                · have hap : (ofL above ++ (⟨#[e]⟩ : Str)) = ofL (above ++ [e]) := by
                    apply Str.ext'
                    show above.toArray ++ #[e] = (above ++ [e]).toArray
                    simp
                  refine EX.cons (EX1.assign (.inr ⟨rfl, rfl, rfl⟩) (EV.callF (EV.gref hgf rfl) rfl (EVs.cons (EV.local rfl (lk q5)) (EVs.cons (EV.local rfl rfl) (EVs.cons (EV.of_eq (EV.bin (EV.local rfl (lk q6)) (EV.local rfl rfl) (Bi.add_str ?_)) (congrArg PV.str hap)) EVs.nil))) hd (hrec e hy hb2) (Nat.le_refl d)) rfl (EX.nil (EX.nil ⟨rfl, rfl, ?_, lk (lk q3), lk (lk q4), lk (lk q5), lk (lk q6)⟩)))
                  · show above.toArray.size + 1 ≤ _
                    rw [List.size_toArray]; exact le_size (by omega)
                  · exact congrArg (fun T => some (PV.list (textsPV T))) (show rec e = tailsOf rec above (.n e) from (if_neg (by rw [hb2]; decide)).symm)
          · rintro fl V4 M4 ⟨rfl, rfl, w1, w2, w3, w4, w5⟩
            have hcat := cat_all (growOf (tailsOf rec above) pd) (tailsOf rec above y)
            rw [← grow_snoc] at hcat
            refine EX.cons ?_
            refine EX1.assignComp2 (g := fun _ => textsPV (tailsOf rec above y)) (f := catPV) (items := textsPV (growOf (tailsOf rec above) pd)) (Vc := [(Str.ofString "tails", .list (textsPV (tailsOf rec above y)))]) ?_ ?_ ?_ ?_ ?_ ?_ ?_ ?_ ?_ ?_ ?_ ?_ ?_ ?_
            · exact .inl rfl
            · rfl
            · refine ⟨?_, ?_, rfl, ?_, rfl, ?_⟩
              · intro p hp hk
                simp only [List.mem_cons, List.not_mem_nil, or_false] at hp
                rcases hp with rfl | rfl | rfl | rfl <;> first | (cases hk; done) | rfl
              · intro y hy hk
                simp only [List.mem_cons, List.not_mem_nil, or_false] at hy
                rcases hy with rfl | rfl | rfl | rfl <;> cases hk
              · intro y hy hk
                simp only [List.mem_cons, List.not_mem_nil, or_false] at hy
                rcases hy with rfl | rfl | rfl | rfl <;> first | (cases hk; done) | rfl
              · intro y' pv ee
                rw [lookup_cons_of] at ee
                by_cases q : y' = Str.ofString "tails"
                · subst q
                  rw [if_pos rfl] at ee
                  cases ee
                  exact ⟨w1, rfl, rfl, rfl⟩
                · rw [if_neg q] at ee; cases ee
            · rfl
            · decide
            · rfl
            · rfl
            · exact It.list (EV.local rfl w2)
            · exact fun _ => rfl
            · exact fun Ca p hp M' => It.list (EV.cell rfl rfl)
            · exact fun _ _ => rfl
            · intro Ca p hp q hq M'
              obtain ⟨t, ht, rfl⟩ := List.mem_map.mp hp
              obtain ⟨u, hu, rfl⟩ := List.mem_map.mp hq
              have hin : t ++ u ∈ growOf (tailsOf rec above) (pd ++ [y]) := by
                rw [grow_snoc]
                exact List.mem_flatMap.mpr ⟨t, ht, List.mem_map.mpr ⟨u, hu, rfl⟩⟩
              have hz := (hG2.2 _ hin).2
              rw [encL_append, List.length_append] at hz
              exact EV.bin (EV.local rfl rfl) (EV.local rfl rfl) (Bi.add_str (by simp [Str.length]; exact le_size (by omega)))
            · rw [hcat, List.length_map]; exact le_size (by have := hG2.1; omega)
            · refine EX.nil ⟨pd ++ [y], ps, by rw [q1]; simp, by simp, rfl, ?_, lk w3, lk w4, lk w5⟩
              exact congrArg (fun z => some (PV.list z)) hcat
      · rintro V3 M3 ⟨pd, ps, q1, q2, rfl, q3, q4, q5, q6⟩
        have hps : ps = [] := by
          have := congrArg List.length q2
          rw [q1] at this
          simp at this
          exact this
        subst hps
        rw [List.append_nil] at q1
        subst q1
        have hG := hbd row ⟨[], by simp⟩
        refine EX.cons (EX1.for (fun done V5 M5 => ∃ pd ps : List (List (List Nat)), growOf (tailsOf rec above) row = pd ++ ps ∧ done = textsPV pd ∧ M5 = [(ta, .list (textsPV (pd.foldl addText (T0 dn))))] ∧ TOk (pd.foldl addText (T0 dn)) (1000 * dn.length + pd.length) ∧ vat V5 "texts" = some (.at ta) ∧ vat V5 "grammar" = some (.dict (gPV g)) ∧ vat V5 "above" = some (.str (ofL above))) rfl
          (It.list (EV.local rfl q3)) ⟨[], _, rfl, rfl, rfl, by simpa using d3, q4, q5, q6⟩ ?_ ?_ (fun _ => rfl))
        · rintro done p rest V5 M5 hit5 ⟨pd, ps, u1, rfl, rfl, u3, u4, u5, u6⟩
          rw [u1] at hit5
          cases ps with
          | nil =>
            exfalso
            have := congrArg List.length hit5
            simp at this
          | cons t ps =>
            have hp : p = PV.str (encS t) := by
              simp only [textsPV, List.map_append, List.map_cons] at hit5
              exact ((List.append_cancel_left hit5) |> List.cons.inj).1.symm
            subst hp
            have ht := hG.2 t (by rw [u1]; simp)
            have hpl : pd.length ≤ 1000 := by
              have := hG.1
              rw [u1, List.length_append] at this
              omega
            have hstep : (pd ++ [t]).foldl addText (T0 dn) = addText (pd.foldl addText (T0 dn)) t := by rw [List.foldl_append]; rfl
            generalize hT : pd.foldl addText (T0 dn) = T at *
            have hTl := u3.1
            refine EX.cons (EX1.ite (ET.not (ET.val (EV.callV (qs := [.list (textsPV T), .str (encS t)]) (EV.gref hgH rfl) rfl (EVs.cons (EV.local rfl (lk u4)) (EVs.cons (EV.local rfl rfl) EVs.nil)) ⟨_, _, rfl, .inr (.inl ⟨ta, _, rfl, List.mem_singleton.mpr rfl, rfl⟩), _, _, rfl, .inl rfl, rfl⟩ Scalar.bool hH
              (held_ok hH hde hge hg hlen (fun ss hss => ⟨(u3.2 ss hss).1, by have := (u3.2 ss hss).2; omega⟩) ht.1 (by have := ht.2; omega)) hd3) Tr.bool rfl)) (fun hb => ?_) (fun hb => EX.nil ?_))
            · have hb' : (T.any fun s => s.isSublist t) = false := by simpa using hb
              have hadd : addText T t = T ++ [t] := by unfold addText; rw [if_neg (by rw [hb']; decide)]
              refine EX.cons (EX1.appendG (M₁ := []) (M₂ := []) (EV.local rfl (lk u4)) rfl (EV.local rfl rfl) (by rw [List.length_map]; exact le_size (by omega)) rfl rfl rfl rfl ?_)
              refine EX.nil (EX.nil ⟨pd ++ [t], ps, by rw [u1]; simp, by simp [textsPV], ?_, ?_, lk u4, lk u5, lk u6⟩)
              · rw [hstep, hadd]; simp [textsPV]
              · rw [hstep, hadd]
                refine ⟨by rw [List.length_append, List.length_append]; simp; omega, fun s hs => ?_⟩
                rcases List.mem_append.mp hs with q | q
                · exact u3.2 s q
                · rw [List.mem_singleton.mp q]; exact ht
            · have hb' : (T.any fun s => s.isSublist t) = true := by simpa using hb
              have hadd : addText T t = T := by unfold addText; rw [if_pos hb']
              refine EX.nil ⟨pd ++ [t], ps, by rw [u1]; simp, by simp [textsPV], by rw [hstep, hadd], ?_, lk u4, lk u5, lk u6⟩
              rw [hstep, hadd]
              exact ⟨by rw [List.length_append]; omega, u3.2⟩
        · rintro V5 M5 ⟨pd, ps, u1, u2, rfl, u3, u4, u5, u6⟩
          have hps : ps = [] := by
            have := congrArg List.length u2
            rw [u1] at this
            simp at this
            exact this
          subst hps
          rw [List.append_nil] at u1
          have hT0 : T0 (dn ++ [row]) = pd.foldl addText (T0 dn) := by
            show (dn ++ [row]).foldl _ [] = _
            rw [List.foldl_append, ← u1]; rfl
          refine EX.nil ⟨dn ++ [row], rs, by rw [d1]; simp, by simp, by rw [hT0], ?_, u4, u5, u6⟩
          rw [hT0]
          have hpl : pd.length ≤ 1000 := by rw [← u1]; exact hG.1
          exact ⟨by have := u3.1; rw [List.length_append]; simp; omega, u3.2⟩
  · rintro V' M' ⟨dn, rs, d1, d2, rfl, d3, d4, d5, d6⟩
    have hrs : rs = [] := by
      have := congrArg List.length d2
      rw [d1] at this
      simp at this
      exact this
    subst hrs
    rw [List.append_nil] at d1
    exact EX.cons (EX1.retOwn (EV.local rfl d4) (List.mem_singleton.mpr rfl) (.inl (by rw [d1])))
end Mine

/-! PlainH -/
namespace Mine
open PySem PySem.W PySem.Calls PyProof.Rows PySem.Builtin
set_option Elab.async false

abbrev Rules := List (Nat × List Nat)
/-- a body gives a word; how many names it takes -/
inductive DerB (rules : Rules) : Nat → List Nat → List Nat → Prop where
  | nil : DerB rules 0 [] []
  | sgn {n c : Nat} {b w : List Nat} (h1 : c ≠ 112) (h2 : c ≠ 113) (h : DerB rules n b w) : DerB rules n (c :: b) (c :: w)
  | nam {n k c : Nat} {b w u body : List Nat} (hc : c = 112 ∨ c = 113) (hr : (c, body) ∈ rules) (hu : DerB rules k body u) (h : DerB rules n b w) : DerB rules (k + n + 1) (c :: b) (u ++ w)
def Der (rules : Rules) (c n : Nat) (w : List Nat) : Prop := ∃ body, (c, body) ∈ rules ∧ DerB rules n body w

def symOf (sg : Nat → List Nat) (c : Nat) : Sy := if c = 112 ∨ c = 113 then .n c else .t (sg c)
def gramOf (sg : Nat → List Nat) (rules : Rules) : Gram := fun c => (rules.filter fun r => r.1 == c).map fun r => r.2.map (symOf sg)

theorem growG (tl : Sy → List (List (List Nat))) : ∀ (row : List Sy) (G : List (List (List Nat))) (t : List (List Nat)),
    t ∈ row.foldl (fun g p => g.flatMap fun t => (tl p).map fun u => t ++ u) G ↔ ∃ a ∈ G, ∃ b ∈ growOf tl row, t = a ++ b
  | [], G, t => by simp [growOf]
  | y :: row, G, t => by
    have key : ∀ G' : List (List (List Nat)), t ∈ (y :: row).foldl (fun g p => g.flatMap fun t => (tl p).map fun u => t ++ u) G' ↔ ∃ a ∈ G', ∃ u ∈ tl y, ∃ b ∈ growOf tl row, t = a ++ (u ++ b) := by
      intro G'
      rw [List.foldl_cons, growG tl row]
      constructor
      · rintro ⟨a, ha, b, hb, rfl⟩
        obtain ⟨a', ha', hm⟩ := List.mem_flatMap.mp ha
        obtain ⟨u, hu, rfl⟩ := List.mem_map.mp hm
        exact ⟨a', ha', u, hu, b, hb, by rw [List.append_assoc]⟩
      · rintro ⟨a, ha, u, hu, b, hb, rfl⟩
        exact ⟨a ++ u, List.mem_flatMap.mpr ⟨a, ha, List.mem_map.mpr ⟨u, hu, rfl⟩⟩, b, hb, by rw [List.append_assoc]⟩
    have key2 : ∀ t', t' ∈ growOf tl (y :: row) ↔ ∃ u ∈ tl y, ∃ b ∈ growOf tl row, t' = u ++ b := by
      intro t'
      unfold growOf
      rw [List.foldl_cons, growG tl row]
      constructor
      · rintro ⟨a, ha, b, hb, rfl⟩
        obtain ⟨a', ha', hm⟩ := List.mem_flatMap.mp ha
        obtain ⟨u, hu, rfl⟩ := List.mem_map.mp hm
        rw [List.mem_singleton.mp ha'] 
        exact ⟨u, hu, b, hb, rfl⟩
      · rintro ⟨u, hu, b, hb, rfl⟩
        exact ⟨u, List.mem_flatMap.mpr ⟨[], List.mem_singleton.mpr rfl, List.mem_map.mpr ⟨u, hu, rfl⟩⟩, b, hb, rfl⟩
    rw [key]
    constructor
    · rintro ⟨a, ha, u, hu, b, hb, rfl⟩
      exact ⟨a, ha, u ++ b, (key2 _).mpr ⟨u, hu, b, hb, rfl⟩, rfl⟩
    · rintro ⟨a, ha, x, hx, rfl⟩
      obtain ⟨u, hu, b, hb, rfl⟩ := (key2 _).mp hx
      exact ⟨a, ha, u, hu, b, hb, rfl⟩
theorem grow_cons {tl : Sy → List (List (List Nat))} {y : Sy} {row : List Sy} {t : List (List Nat)} : t ∈ growOf tl (y :: row) ↔ ∃ u ∈ tl y, ∃ b ∈ growOf tl row, t = u ++ b := by
  unfold growOf
  rw [List.foldl_cons, growG]
  constructor
  · rintro ⟨a, ha, b, hb, rfl⟩
    obtain ⟨a', ha', hm⟩ := List.mem_flatMap.mp ha
    obtain ⟨u, hu, rfl⟩ := List.mem_map.mp hm
    rw [List.mem_singleton.mp ha']
    exact ⟨u, hu, b, hb, rfl⟩
  · rintro ⟨u, hu, b, hb, rfl⟩
    exact ⟨u, List.mem_flatMap.mpr ⟨[], List.mem_singleton.mpr rfl, List.mem_map.mpr ⟨u, hu, rfl⟩⟩, b, hb, rfl⟩

theorem adds_mem : ∀ (l : List (List (List Nat))) (T : List (List (List Nat))) (t : List (List Nat)), t ∈ l.foldl addText T → t ∈ T ∨ t ∈ l
  | [], _, _, h => .inl h
  | a :: l, T, t, h => by
    rcases adds_mem l _ t h with q | q
    · unfold addText at q
      split at q
      · exact .inl q
      · rcases List.mem_append.mp q with q | q
        · exact .inl q
        · exact .inr (by rw [List.mem_singleton.mp q]; exact List.mem_cons_self)
    · exact .inr (List.mem_cons_of_mem _ q)
theorem add_keeps {T : List (List (List Nat))} {a t : List (List Nat)} (h : t ∈ T) : t ∈ addText T a := by
  unfold addText; split
  · exact h
  · exact List.mem_append_left _ h
theorem adds_keep : ∀ (l : List (List (List Nat))) (T : List (List (List Nat))) (t : List (List Nat)), t ∈ T → t ∈ l.foldl addText T
  | [], _, _, h => h
  | a :: l, T, t, h => adds_keep l _ t (add_keeps h)
theorem adds_cover : ∀ (l : List (List (List Nat))) (T : List (List (List Nat))) (t : List (List Nat)), t ∈ l → ∃ u ∈ l.foldl addText T, u.Sublist t
  | [], _, _, h => nomatch h
  | a :: l, T, t, h => by
    rcases List.mem_cons.mp h with rfl | q
    · have : ∃ u ∈ addText T t, u.Sublist t := by
        unfold addText
        split
        · rename_i hc
          obtain ⟨u, hu, hs⟩ := List.any_eq_true.mp hc
          exact ⟨u, hu, List.isSublist_iff_sublist.mp hs⟩
        · exact ⟨t, List.mem_append_right _ (List.mem_singleton.mpr rfl), List.Sublist.refl _⟩
      obtain ⟨u, hu, hs⟩ := this
      exact ⟨u, adds_keep l _ u hu, hs⟩
    · exact adds_cover l _ t q
abbrev foldRows (tl : Sy → List (List (List Nat))) (rows : List (List Sy)) (T : List (List (List Nat))) : List (List (List Nat)) := rows.foldl (fun T row => (growOf tl row).foldl addText T) T
theorem rows_mem (tl : Sy → List (List (List Nat))) : ∀ (rows : List (List Sy)) (T : List (List (List Nat))) (t : List (List Nat)), t ∈ foldRows tl rows T → t ∈ T ∨ ∃ row ∈ rows, t ∈ growOf tl row
  | [], _, _, h => .inl h
  | r :: rows, T, t, h => by
    rcases rows_mem tl rows _ t h with q | ⟨row, h1, h2⟩
    · rcases adds_mem _ _ _ q with q | q
      · exact .inl q
      · exact .inr ⟨r, List.mem_cons_self, q⟩
    · exact .inr ⟨row, List.mem_cons_of_mem _ h1, h2⟩
theorem rows_keep (tl : Sy → List (List (List Nat))) : ∀ (rows : List (List Sy)) (T : List (List (List Nat))) (t : List (List Nat)), t ∈ T → t ∈ foldRows tl rows T
  | [], _, _, h => h
  | r :: rows, T, t, h => rows_keep tl rows _ t (adds_keep _ _ _ h)
theorem rows_cover (tl : Sy → List (List (List Nat))) : ∀ (rows : List (List Sy)) (T : List (List (List Nat))) (row : List Sy) (t : List (List Nat)), row ∈ rows → t ∈ growOf tl row → ∃ u ∈ foldRows tl rows T, u.Sublist t
  | [], _, _, _, h, _ => nomatch h
  | r :: rows, T, row, t, h, ht => by
    rcases List.mem_cons.mp h with rfl | q
    · obtain ⟨u, hu, hs⟩ := adds_cover (growOf tl row) T t ht
      exact ⟨u, rows_keep tl rows _ u hu, hs⟩
    · exact rows_cover tl rows _ row t q ht

section
variable {rules : Rules} {sg : Nat → List Nat}
/-- the texts of L lie in each word of c, or the word holds a lesser one of a name above -/
def Cov (rules : Rules) (sg : Nat → List Nat) (c : Nat) (above : List Nat) (L : List (List (List Nat))) : Prop :=
  ∀ n w, Der rules c n w → (∃ t ∈ L, t.Sublist (w.map sg)) ∨ ∃ d ∈ above, d ≠ c ∧ ∃ k, k < n ∧ ∃ w', Der rules d k w' ∧ w'.Sublist w
theorem row_cover {rec : Nat → List (List (List Nat))} {above : List Nat} (hrec : ∀ d, (d = 112 ∨ d = 113) → above.contains d = false → Cov rules sg d (above ++ [d]) (rec d)) :
    ∀ {n : Nat} {body w : List Nat}, DerB rules n body w → (∃ t ∈ growOf (tailsOf rec above) (body.map (symOf sg)), t.Sublist (w.map sg)) ∨ ∃ d ∈ above, ∃ k, k < n ∧ ∃ w', Der rules d k w' ∧ w'.Sublist w := by
  intro n body w h
  induction h with
  | nil => exact .inl ⟨[], by simp [growOf], List.Sublist.refl _⟩
  | @sgn n c b w h1 h2 h ih =>
    rcases ih with ⟨t, ht, hs⟩ | ⟨d, hd, k, hk, w', hw, hs⟩
    · refine .inl ⟨[sg c] ++ t, ?_, ?_⟩
      · rw [List.map_cons]
        refine grow_cons.mpr ⟨[sg c], ?_, t, ht, rfl⟩
        unfold symOf
        rw [if_neg (by rintro (q | q) <;> contradiction)]
        exact List.mem_singleton.mpr rfl
      · exact hs.cons₂ _
    · exact .inr ⟨d, hd, k, hk, w', hw, hs.cons _⟩
  | @nam n k c b w u body hc hr hu h ih1 ih2 =>
    have e : symOf sg c = .n c := if_pos hc
    cases ha : above.contains c with
    | true => exact .inr ⟨c, List.contains_iff_mem.mp ha, k, by omega, u, ⟨body, hr, hu⟩, List.sublist_append_left _ _⟩
    | false =>
      rcases hrec c hc ha k u ⟨body, hr, hu⟩ with ⟨t1, ht1, hs1⟩ | ⟨d, hd, hdc, k', hk, w', hw, hs⟩
      · rcases ih2 with ⟨t, ht, hs⟩ | ⟨d, hd, k', hk, w', hw, hs⟩
        · refine .inl ⟨t1 ++ t, ?_, ?_⟩
          · rw [List.map_cons, e]
            refine grow_cons.mpr ⟨t1, ?_, t, ht, rfl⟩
            show t1 ∈ (if above.contains c then [] else rec c)
            rw [if_neg (by rw [ha]; decide)]
            exact ht1
          · rw [List.map_append]
            exact hs1.append hs
        · exact .inr ⟨d, hd, k', by omega, w', hw, hs.trans (List.sublist_append_right _ _)⟩
      · rcases List.mem_append.mp hd with q | q
        · exact .inr ⟨d, q, k', by omega, w', hw, hs.trans (List.sublist_append_left _ _)⟩
        · exact absurd (List.mem_singleton.mp q) hdc
theorem name_cover {rec : Nat → List (List (List Nat))} {above : List Nat} {c : Nat} (hrec : ∀ d, (d = 112 ∨ d = 113) → above.contains d = false → Cov rules sg d (above ++ [d]) (rec d)) :
    Cov rules sg c above (foldRows (tailsOf rec above) (gramOf sg rules c) []) := by
  intro n
  induction n using Nat.strongRecOn with
  | _ n IH =>
    rintro w ⟨body, hr, hb⟩
    rcases row_cover hrec hb with ⟨t, ht, hs⟩ | ⟨d, hd, k, hk, w', hw, hs⟩
    · obtain ⟨u, hu, hus⟩ := rows_cover (tailsOf rec above) (gramOf sg rules c) [] (body.map (symOf sg)) t (List.mem_map.mpr ⟨(c, body), List.mem_filter.mpr ⟨hr, by simp⟩, rfl⟩) ht
      exact .inl ⟨u, hu, hus.trans hs⟩
    · by_cases e : d = c
      · subst e
        rcases IH k hk w' hw with ⟨t, ht, hts⟩ | ⟨e, he, hec, k', hk', w'', hw'', hs''⟩
        · exact .inl ⟨t, ht, hts.trans (hs.map sg)⟩
        · exact .inr ⟨e, he, hec, k', by omega, w'', hw'', hs''.trans hs⟩
      · exact .inr ⟨d, hd, e, k, hk, w', hw, hs⟩
/-- the texts are words of c -/
def Wds (rules : Rules) (sg : Nat → List Nat) (c : Nat) (L : List (List (List Nat))) : Prop := ∀ t ∈ L, ∃ n w, Der rules c n w ∧ t = w.map sg
theorem row_words {rec : Nat → List (List (List Nat))} {above : List Nat} (hrec : ∀ d, (d = 112 ∨ d = 113) → above.contains d = false → Wds rules sg d (rec d)) :
    ∀ (body : List Nat) (t : List (List Nat)), t ∈ growOf (tailsOf rec above) (body.map (symOf sg)) → ∃ n w, DerB rules n body w ∧ t = w.map sg
  | [], t, h => by
    have : t = [] := by simpa [growOf] using h
    exact ⟨0, [], .nil, this⟩
  | c :: b, t, h => by
    rw [List.map_cons] at h
    obtain ⟨u, hu, t', ht', rfl⟩ := grow_cons.mp h
    obtain ⟨n, w, hw, rfl⟩ := row_words hrec b t' ht'
    by_cases hc : c = 112 ∨ c = 113
    · rw [show symOf sg c = .n c from if_pos hc] at hu
      have hu : u ∈ (if above.contains c then [] else rec c) := hu
      split at hu
      · cases hu
      · rename_i ha
        obtain ⟨k, v, ⟨body, hr, hb⟩, rfl⟩ := hrec c hc (by simpa using ha) u hu
        exact ⟨_, _, .nam hc hr hb hw, by rw [List.map_append]⟩
    · rw [show symOf sg c = .t (sg c) from if_neg hc] at hu
      have hu : u ∈ [[sg c]] := hu
      rw [List.mem_singleton.mp hu]
      exact ⟨_, _, .sgn (fun q => hc (.inl q)) (fun q => hc (.inr q)) hw, rfl⟩
theorem name_words {rec : Nat → List (List (List Nat))} {above : List Nat} {c : Nat} (hrec : ∀ d, (d = 112 ∨ d = 113) → above.contains d = false → Wds rules sg d (rec d)) : Wds rules sg c (foldRows (tailsOf rec above) (gramOf sg rules c) []) := by
  intro t ht
  rcases rows_mem _ _ _ _ ht with q | ⟨row, h1, h2⟩
  · cases q
  · obtain ⟨r, hr, rfl⟩ := List.mem_map.mp h1
    obtain ⟨h3, h4⟩ := List.mem_filter.mp hr
    obtain ⟨n, w, hw, rfl⟩ := row_words hrec r.2 t h2
    exact ⟨n, w, ⟨r.2, by rw [← (beq_iff_eq.mp h4)]; exact h3, hw⟩, rfl⟩
def texts1 (sg : Nat → List Nat) (rules : Rules) : List (List (List Nat)) := foldRows (tailsOf (fun _ => []) [112, 113]) (gramOf sg rules 113) []
def texts2 (sg : Nat → List Nat) (rules : Rules) : List (List (List Nat)) := foldRows (tailsOf (fun _ => texts1 sg rules) [112]) (gramOf sg rules 112) []
theorem above2 {d : Nat} (hd : d = 112 ∨ d = 113) (h : ([112, 113] : List Nat).contains d = false) : False := by rcases hd with rfl | rfl <;> cases h
theorem above1 {d : Nat} (hd : d = 112 ∨ d = 113) (h : ([112] : List Nat).contains d = false) : d = 113 := by rcases hd with rfl | rfl; · cases h
                                                                                                              · rfl
theorem texts_cover {n : Nat} {w : List Nat} (h : Der rules 112 n w) : ∃ t ∈ texts2 sg rules, t.Sublist (w.map sg) := by
  have h1 : Cov rules sg 113 [112, 113] (texts1 sg rules) := name_cover fun d hd ha => (above2 hd ha).elim
  have h2 : Cov rules sg 112 [112] (texts2 sg rules) := name_cover fun d hd ha => by
    obtain rfl := above1 hd ha
    exact h1
  rcases h2 n w h with q | ⟨d, hd, hn, _⟩
  · exact q
  · exact absurd (List.mem_singleton.mp hd) hn
theorem texts_words {t : List (List Nat)} (h : t ∈ texts2 sg rules) : ∃ n w, Der rules 112 n w ∧ t = w.map sg :=
  name_words (c := 112) (rec := fun _ => texts1 sg rules) (above := [112]) (fun d hd ha => by
    obtain rfl := above1 hd ha
    exact name_words fun d hd ha => (above2 hd ha).elim) t h
end
end Mine

/-! PlainI -/
namespace Mine
open PySem PySem.W PySem.Calls PyProof.Rows PySem.Builtin PySem.Builtin.Str PySem.StrLaws
set_option Elab.async false

theorem at_one {l : List Nat} {c i : Nat} : At (ofL l) ⟨#[c]⟩ (ofL l).length i ↔ l[i]? = some c := by
  rw [at_iff]
  show [c] <+: l.drop i ∧ i ≤ l.toArray.size ↔ _
  constructor
  · rintro ⟨⟨t, h⟩, _⟩
    have := congrArg (fun z => z[0]?) h
    simpa using this.symm
  · intro h
    have hi := (List.getElem?_eq_some_iff.mp h)
    obtain ⟨h1, h2⟩ := hi
    refine ⟨⟨l.drop (i + 1), ?_⟩, by simp; omega⟩
    rw [List.drop_eq_getElem_cons h1, h2]; rfl
theorem ff_cases (l : List Nat) (c spot : Nat) : (findFrom (ofL l) ⟨#[c]⟩ spot < 0 ∧ ∀ i, spot ≤ i → l[i]? ≠ some c) ∨ ∃ i, spot ≤ i ∧ findFrom (ofL l) ⟨#[c]⟩ spot = i ∧ l[i]? = some c ∧ ∀ j, spot ≤ j → j < i → l[j]? ≠ some c := by
  have hs : fromIndex (ofL l).length (spot : Int) = spot := by unfold fromIndex; rw [if_neg (by omega)]; omega
  unfold findFrom
  rw [hs]
  rcases occ_head_from (ofL l) ⟨#[c]⟩ spot 1 (Nat.le_refl _) with ⟨e, h⟩ | ⟨i, r, e, g1, g2, g3⟩
  · rw [e]
    exact .inl ⟨by show (-1 : Int) < 0; omega, fun i hi q => h i hi (at_one.mpr q)⟩
  · rw [e]
    exact .inr ⟨i, g1, rfl, at_one.mp g2, fun j h1 h2 q => g3 j h1 h2 (at_one.mpr q)⟩

def sl (l : List Nat) (s e : Nat) : List Nat := (l.drop s).take (e - s)
theorem sl_app {l : List Nat} {s m e : Nat} (h1 : s ≤ m) (h2 : m ≤ e) : sl l s e = sl l s m ++ sl l m e := by
  unfold sl
  have : l.drop m = (l.drop s).drop (m - s) := by rw [List.drop_drop]; congr 1; omega
  rw [this, show e - s = (m - s) + (e - m) by omega, List.take_add]
theorem sl_mono {l : List Nat} {s s' e e' : Nat} (h1 : s' ≤ s) (h2 : e ≤ e') (h : s ≤ e) : (sl l s e).Sublist (sl l s' e') := by
  rw [sl_app (s := s') (m := s) h1 (by omega), sl_app (s := s) (m := e) h h2]
  exact (List.sublist_append_left _ _).trans (List.sublist_append_right _ _)
theorem sl_one {l : List Nat} {i c : Nat} (h : l[i]? = some c) : sl l i (i + 1) = [c] := by
  obtain ⟨h1, h2⟩ := List.getElem?_eq_some_iff.mp h
  unfold sl
  rw [List.drop_eq_getElem_cons h1, show i + 1 - i = 1 by omega, h2]; rfl
theorem sl_split {l r1 r2 : List Nat} {s e : Nat} (hse : s ≤ e) (h : sl l s e = r1 ++ r2) : ∃ m, s ≤ m ∧ m ≤ e ∧ r1 = sl l s m ∧ r2 = sl l m e := by
  have hlen : r1.length ≤ e - s := by
    have := congrArg List.length h
    rw [List.length_append] at this
    have h2 : (sl l s e).length ≤ e - s := by unfold sl; rw [List.length_take]; omega
    omega
  refine ⟨s + r1.length, by omega, by omega, ?_, ?_⟩
  · have := congrArg (List.take r1.length) h
    rw [List.take_left] at this
    refine this.symm.trans ?_
    unfold sl
    rw [List.take_take, show min r1.length (e - s) = s + r1.length - s by omega]
  · have := congrArg (List.drop r1.length) h
    rw [List.drop_left] at this
    refine this.symm.trans ?_
    unfold sl
    rw [List.drop_take, List.drop_drop]
    congr 1
    omega
theorem sl_mem {l : List Nat} {s e c : Nat} (h : c ∈ sl l s e) : ∃ i, s ≤ i ∧ i < e ∧ l[i]? = some c := by
  obtain ⟨k, hk, hc⟩ := List.mem_iff_getElem.mp h
  have hc' : (sl l s e)[k]? = some c := by rw [List.getElem?_eq_getElem hk, hc]
  unfold sl at hc'
  rw [List.getElem?_take] at hc'
  split at hc'
  · rw [List.getElem?_drop] at hc'
    exact ⟨s + k, by omega, by omega, hc'⟩
  · cases hc'
theorem sub_cons {l w : List Nat} {s e c : Nat} (hse : s ≤ e) (h : (c :: w).Sublist (sl l s e)) : ∃ i, s ≤ i ∧ i < e ∧ l[i]? = some c ∧ w.Sublist (sl l (i + 1) e) := by
  obtain ⟨r1, r2, e1, h1, h2⟩ := List.cons_sublist_iff.mp h
  obtain ⟨m, m1, m2, rfl, rfl⟩ := sl_split hse e1
  obtain ⟨i, i1, i2, i3⟩ := sl_mem h1
  exact ⟨i, i1, by omega, i3, h2.trans (sl_mono (by omega) (Nat.le_refl _) m2)⟩

/-- the places that a step told -/
def nameE (E : En) (c s : Nat) : Nat := if c = 112 then E.1.getD s 0 else E.2.1.getD s 0
def Snd (rules : Rules) (l : List Nat) (far : Nat) (E : En) : Prop :=
  ∀ c, (c = 112 ∨ c = 113) → ∀ s, s ≤ far → nameE E c s < far → s ≤ nameE E c s ∧ ∃ n w, Der rules c n w ∧ w.Sublist (sl l s (nameE E c s))
section
variable {rules : Rules} {l : List Nat} {far : Nat} (hf : (ofL l).length + 1 = far)
include hf
theorem len_far : l.length + 1 = far := by rw [← hf]; simp [Str.length]
theorem spot_sound {E : En} (ok : OkE far E) (sd : Snd rules l far E) : ∀ (body : List Nat) (start : Nat), start ≤ far → spotE (ofL l) far E.1 E.2.1 body start < far →
    start ≤ spotE (ofL l) far E.1 E.2.1 body start ∧ ∃ n w, DerB rules n body w ∧ w.Sublist (sl l start (spotE (ofL l) far E.1 E.2.1 body start))
  | [], start, _, _ => ⟨Nat.le_refl _, 0, [], .nil, List.nil_sublist _⟩
  | c :: body, start, hs, h => by
    have hstep : stepE (ofL l) far E.1 E.2.1 start c ≤ far := step_le ok hf
    generalize hm : stepE (ofL l) far E.1 E.2.1 start c = m at *
    have e : spotE (ofL l) far E.1 E.2.1 (c :: body) start = spotE (ofL l) far E.1 E.2.1 body m := by
      unfold spotE; rw [List.foldl_cons, hm]
    rw [e] at h ⊢
    obtain ⟨a1, n, w, a2, a3⟩ := spot_sound ok sd body m hstep h
    have hmf : m < far := by omega
    have hlen := len_far hf
    have hnam : ∀ hc : c = 112 ∨ c = 113, m = nameE E c start → start ≤ spotE (ofL l) far E.1 E.2.1 body m ∧ ∃ n w, DerB rules n (c :: body) w ∧ w.Sublist (sl l start (spotE (ofL l) far E.1 E.2.1 body m)) := fun hc q => by
      obtain ⟨b1, k, u, ⟨bd, b2, b3⟩, b4⟩ := sd c hc start hs (by rw [← q]; exact hmf)
      rw [← q] at b1 b4
      refine ⟨by omega, _, _, .nam hc b2 b3 a2, ?_⟩
      rw [sl_app b1 a1]
      exact b4.append a3
    unfold stepE at hm
    split at hm
    · rename_i hc
      exact hnam (.inl hc) (by rw [← hm, nameE, if_pos hc])
    · split at hm
      · rename_i h1 hc
        exact hnam (.inr hc) (by rw [← hm, nameE, if_neg h1])
      · rename_i h1 h2
        rcases ff_cases l c start with ⟨q, _⟩ | ⟨i, i1, i2, i3, _⟩
        · rw [if_pos q] at hm; omega
        · rw [i2, if_neg (by omega)] at hm
          have hm' : m = i + 1 := by omega
          subst hm'
          refine ⟨by omega, _, _, .sgn h1 h2 a2, ?_⟩
          rw [sl_app (m := i + 1) (by omega) a1, sl_app (m := i) i1 (by omega), sl_one i3, List.append_assoc]
          exact (a3.cons_cons c).trans (List.sublist_append_right _ _)
theorem put_sound {E : En} (ok : OkE far E) (sd : Snd rules l far E) {r : Nat × List Nat} (hr : r ∈ rules) (hn : r.1 = 112 ∨ r.1 = 113) {start : Nat} (hs : start < far) : Snd rules l far (startE (ofL l) far r E start) := by
  intro c hc s hsf hlt
  have old := sd c hc s hsf
  have new := spot_sound hf ok sd r.2 start (Nat.le_of_lt hs)
  generalize hsp : spotE (ofL l) far E.1 E.2.1 r.2 start = sp at *
  have key : nameE (startE (ofL l) far r E start) c s = nameE E c s ∨ (c = r.1 ∧ s = start ∧ nameE (startE (ofL l) far r E start) c s = sp) := by
    unfold startE
    rw [hsp]
    unfold putE
    rcases hn with h1 | h1
    · rw [if_pos h1]
      split
      · unfold nameE
        rcases hc with rfl | rfl
        · rw [if_pos rfl, if_pos rfl]
          by_cases q : s = start
          · subst q
            refine .inr ⟨h1.symm, rfl, ?_⟩
            show (E.1.set s sp).getD s 0 = sp
            rw [List.getD_eq_getElem?_getD, List.getElem?_set_self (by rw [ok.lp]; omega)]; rfl
          · refine .inl ?_
            show (E.1.set start sp).getD s 0 = _
            rw [List.getD_eq_getElem?_getD, List.getElem?_set_ne (fun z => q z.symm), List.getD_eq_getElem?_getD]
        · exact .inl rfl
      · exact .inl rfl
    · rw [if_neg (by omega)]
      split
      · unfold nameE
        rcases hc with rfl | rfl
        · exact .inl rfl
        · rw [if_neg (by decide), if_neg (by decide)]
          by_cases q : s = start
          · subst q
            refine .inr ⟨h1.symm, rfl, ?_⟩
            show (E.2.1.set s sp).getD s 0 = sp
            rw [List.getD_eq_getElem?_getD, List.getElem?_set_self (by rw [ok.lq]; omega)]; rfl
          · refine .inl ?_
            show (E.2.1.set start sp).getD s 0 = _
            rw [List.getD_eq_getElem?_getD, List.getElem?_set_ne (fun z => q z.symm), List.getD_eq_getElem?_getD]
      · exact .inl rfl
  rcases key with q | ⟨rfl, rfl, q⟩
  · rw [q] at hlt ⊢; exact old hlt
  · rw [q] at hlt ⊢
    obtain ⟨a1, n, w, a2, a3⟩ := new hlt
    exact ⟨a1, n, w, ⟨r.2, hr, a2⟩, a3⟩
theorem fold_sound {α : Type} {f : En → α → En} {P : α → Prop} (h : ∀ E a, P a → OkE far E → Snd rules l far E → OkE far (f E a) ∧ Snd rules l far (f E a)) : ∀ (xs : List α) (E : En), (∀ a ∈ xs, P a) → OkE far E → Snd rules l far E → OkE far (xs.foldl f E) ∧ Snd rules l far (xs.foldl f E)
  | [], _, _, a, b => ⟨a, b⟩
  | x :: xs, E, hp, a, b => by
    obtain ⟨c, d⟩ := h E x (hp x List.mem_cons_self) a b
    exact fold_sound h xs _ (fun a ha => hp a (List.mem_cons_of_mem _ ha)) c d
theorem turn_sound (hn : ∀ r ∈ rules, r.1 = 112 ∨ r.1 = 113) {E : En} (ok : OkE far E) (sd : Snd rules l far E) : OkE far (turnE (ofL l) far rules E) ∧ Snd rules l far (turnE (ofL l) far rules E) := by
  unfold turnE
  refine fold_sound (far := far) hf (P := fun r => r ∈ rules) (fun E r hr ok sd => ?_) rules (E.1, E.2.1, false) (fun _ h => h) ⟨ok.lp, ok.lq, ok.bp, ok.bq⟩ sd
  unfold ruleE
  exact fold_sound (far := far) hf (P := fun s => s < far) (fun E s hs ok sd => ⟨(start_ok hf (Nat.le_of_lt hs) ok).1, put_sound hf ok sd hr (hn r hr) hs⟩) (List.range far) E (fun s hs => List.mem_range.mp hs) ok sd
theorem iter_sound (hn : ∀ r ∈ rules, r.1 = 112 ∨ r.1 = 113) : ∀ (k : Nat) (E : En), OkE far E → Snd rules l far E → Snd rules l far (iterE (ofL l) far rules k E)
  | 0, _, _, sd => sd
  | k + 1, E, ok, sd => by
    obtain ⟨a, b⟩ := turn_sound hf hn ok sd
    unfold iterE
    split
    · exact iter_sound hn k _ a b
    · exact b
/-- a word that lies in the stretch ends no sooner than what is told -/
theorem body_least {E : En} (ok : OkE far E) (fix : turnE (ofL l) far rules E = E) {n : Nat} {body w : List Nat} (h : DerB rules n body w) : ∀ s e, s ≤ e → e < far → w.Sublist (sl l s e) → spotE (ofL l) far E.1 E.2.1 body s ≤ e := by
  induction h with
  | nil => exact fun s e h _ _ => h
  | @sgn n c b w h1 h2 h ih =>
    intro s e hse he hs
    obtain ⟨i, i1, i2, i3, i4⟩ := sub_cons hse hs
    have e1 : spotE (ofL l) far E.1 E.2.1 (c :: b) s = spotE (ofL l) far E.1 E.2.1 b (stepE (ofL l) far E.1 E.2.1 s c) := rfl
    rw [e1]
    rcases ff_cases l c s with ⟨_, q⟩ | ⟨j, j1, j2, j3, j4⟩
    · exact absurd i3 (q i i1)
    · have : stepE (ofL l) far E.1 E.2.1 s c = j + 1 := by
        unfold stepE
        rw [if_neg h1, if_neg h2, j2, if_neg (by omega)]; omega
      rw [this]
      have hji : j ≤ i := Nat.le_of_not_lt fun q => j4 i i1 q i3
      exact ih (j + 1) e (by omega) he (i4.trans (sl_mono (by omega) (Nat.le_refl _) (by omega)))
  | @nam n k c b w u body hc hr hu h ih1 ih2 =>
    intro s e hse he hs
    obtain ⟨r1, r2, e1, h1, h2⟩ := List.append_sublist_iff.mp hs
    obtain ⟨m, m1, m2, rfl, rfl⟩ := sl_split hse e1
    have e2 : spotE (ofL l) far E.1 E.2.1 (c :: b) s = spotE (ofL l) far E.1 E.2.1 b (stepE (ofL l) far E.1 E.2.1 s c) := rfl
    rw [e2]
    have hle := fix_le hf ok fix hr (s := s) (by omega)
    dsimp only at hle
    have hst : stepE (ofL l) far E.1 E.2.1 s c ≤ m := by
      have := ih1 s m m1 (by omega) h1
      unfold stepE
      rcases hc with rfl | rfl
      · rw [if_pos rfl]; rw [if_pos rfl] at hle; omega
      · rw [if_neg (by decide), if_pos rfl]; rw [if_neg (by decide)] at hle; omega
    exact ih2 _ e (by omega) he (h2.trans (sl_mono hst (Nat.le_refl _) m2))
end
/-- what the table ends with -/
def endE (l : List Nat) (rules : Rules) : En := iterE (ofL l) (l.length + 1) rules (2 * (l.length + 1 + 1) * (l.length + 1) + 1) (List.replicate (l.length + 1 + 1) (l.length + 1), List.replicate (l.length + 1 + 1) (l.length + 1), true)
theorem rep_getD {n v s : Nat} (h : s < n) : (List.replicate n v).getD s 0 = v := by
  rw [List.getD_eq_getElem?_getD, List.getElem?_replicate, if_pos h]; rfl
theorem sum_rep (n v : Nat) : (List.replicate n v).sum = n * v := by
  induction n with
  | zero => simp
  | succ n ih => rw [List.replicate_succ, List.sum_cons, ih, Nat.succ_mul]; omega
theorem ends_spec {l : List Nat} {rules : Rules} (hn : ∀ r ∈ rules, r.1 = 112 ∨ r.1 = 113) {s e : Nat} (hse : s ≤ e) (he : e ≤ l.length) :
    (endE l rules).1.getD s 0 ≤ e ↔ ∃ n w, Der rules 112 n w ∧ w.Sublist (sl l s e) := by
  have hf : (ofL l).length + 1 = l.length + 1 := by simp [Str.length]
  have ok0 : OkE (l.length + 1) (List.replicate (l.length + 1 + 1) (l.length + 1), List.replicate (l.length + 1 + 1) (l.length + 1), true) :=
    ⟨List.length_replicate, List.length_replicate, fun x hx => by rw [(List.mem_replicate.mp hx).2]; exact Nat.le_refl _, fun x hx => by rw [(List.mem_replicate.mp hx).2]; exact Nat.le_refl _⟩
  have sd0 : Snd rules l (l.length + 1) (List.replicate (l.length + 1 + 1) (l.length + 1), List.replicate (l.length + 1 + 1) (l.length + 1), true) := fun c hc s hs h => by
    exfalso
    unfold nameE at h
    split at h
    · rw [show (List.replicate (l.length + 1 + 1) (l.length + 1), List.replicate (l.length + 1 + 1) (l.length + 1), true).1 = List.replicate (l.length + 1 + 1) (l.length + 1) from rfl, rep_getD (by omega)] at h; omega
    · rw [show (List.replicate (l.length + 1 + 1) (l.length + 1), List.replicate (l.length + 1 + 1) (l.length + 1), true).2.1 = List.replicate (l.length + 1 + 1) (l.length + 1) from rfl, rep_getD (by omega)] at h; omega
  obtain ⟨ok, fix⟩ := iter_fix hf rules (2 * (l.length + 1 + 1) * (l.length + 1) + 1) _ ok0 (by
    unfold sumE
    show (List.replicate _ _).sum + (List.replicate _ _).sum < _
    rw [sum_rep, Nat.mul_assoc]; omega)
  have sd := iter_sound hf hn (2 * (l.length + 1 + 1) * (l.length + 1) + 1) _ ok0 sd0
  constructor
  · intro h
    obtain ⟨a, n, w, b, c⟩ := sd 112 (.inl rfl) s (by omega) (by show (endE l rules).1.getD s 0 < _; omega)
    refine ⟨n, w, b, c.trans (sl_mono (Nat.le_refl _) h a)⟩
  · rintro ⟨n, w, ⟨body, hr, hb⟩, hs⟩
    have h1 := body_least hf ok fix hb s e hse (by omega) hs
    have h2 := fix_le hf ok fix hr (s := s) (by omega)
    rw [if_pos rfl] at h2
    exact Nat.le_trans h2 h1
theorem ends_len {l : List Nat} {rules : Rules} : (endE l rules).1.length = l.length + 2 := by
  have hf : (ofL l).length + 1 = l.length + 1 := by simp [Str.length]
  have ok0 : OkE (l.length + 1) (List.replicate (l.length + 1 + 1) (l.length + 1), List.replicate (l.length + 1 + 1) (l.length + 1), true) :=
    ⟨List.length_replicate, List.length_replicate, fun x hx => by rw [(List.mem_replicate.mp hx).2]; exact Nat.le_refl _, fun x hx => by rw [(List.mem_replicate.mp hx).2]; exact Nat.le_refl _⟩
  exact (iter_fix hf rules (2 * (l.length + 1 + 1) * (l.length + 1) + 1) _ ok0 (by
    unfold sumE
    show (List.replicate _ _).sum + (List.replicate _ _).sum < _
    rw [sum_rep, Nat.mul_assoc]; omega)).1.lp
/-- words over the two signs, spelled -/
theorem map_sub {sg : Nat → List Nat} (hsg : sg 48 ≠ sg 49) {w v : List Nat} (hw : ∀ c ∈ w, c = 48 ∨ c = 49) (hv : ∀ c ∈ v, c = 48 ∨ c = 49) : (w.map sg).Sublist (v.map sg) ↔ w.Sublist v := by
  constructor
  · intro h
    obtain ⟨l', h1, h2⟩ := List.sublist_map_iff.mp h
    have : w = l' := by
      clear h
      induction w generalizing l' v with
      | nil => cases l' with
        | nil => rfl
        | cons _ _ => cases h2
      | cons a w ih =>
        cases l' with
        | nil => cases h2
        | cons b l' =>
          rw [List.map_cons, List.map_cons] at h2
          obtain ⟨e1, e2⟩ := List.cons.inj h2
          have ha := hw a List.mem_cons_self
          have hb := hv b (h1.subset List.mem_cons_self)
          have : a = b := by
            rcases ha with rfl | rfl <;> rcases hb with rfl | rfl
            · rfl
            · exact absurd e1 hsg
            · exact absurd e1.symm hsg
            · rfl
          rw [this, ih (fun c hc => hw c (List.mem_cons_of_mem _ hc)) hv l' ((List.sublist_cons_self _ _).trans h1) e2]
    rw [this]; exact h1
  · exact fun h => h.map sg
theorem word_signs {rules : Rules} (hb : ∀ r ∈ rules, ∀ c ∈ r.2, c = 48 ∨ c = 49 ∨ c = 112 ∨ c = 113) {n : Nat} {body w : List Nat} (h : DerB rules n body w) : (∀ c ∈ body, c = 48 ∨ c = 49 ∨ c = 112 ∨ c = 113) → ∀ c ∈ w, c = 48 ∨ c = 49 := by
  induction h with
  | nil => exact fun _ c hc => nomatch hc
  | @sgn n c b w h1 h2 h ih =>
    intro hb' d hd
    rcases List.mem_cons.mp hd with rfl | q
    · rcases hb' d List.mem_cons_self with q | q | q | q
      · exact .inl q
      · exact .inr q
      · exact absurd q h1
      · exact absurd q h2
    · exact ih (fun c hc => hb' c (List.mem_cons_of_mem _ hc)) d q
  | @nam n k c b w u body hc hr hu h ih1 ih2 =>
    intro hb' d hd
    rcases List.mem_append.mp hd with q | q
    · exact ih1 (hb _ hr) d q
    · exact ih2 (fun c hc => hb' c (List.mem_cons_of_mem _ hc)) d q
/-- the law, no program in sight -/
theorem higman {sg : Nat → List Nat} {rules : Rules} {l : List Nat} (hsg : sg 48 ≠ sg 49) (hn : ∀ r ∈ rules, r.1 = 112 ∨ r.1 = 113) (hb : ∀ r ∈ rules, ∀ c ∈ r.2, c = 48 ∨ c = 49 ∨ c = 112 ∨ c = 113) (hl : ∀ c ∈ l, c = 48 ∨ c = 49)
    {s e : Nat} (hse : s ≤ e) (he : e ≤ l.length) :
    (((texts2 sg rules).filter fun t => t.isSublist (l.map sg)).any fun t => t.isSublist ((sl l s e).map sg)) = decide ((endE l rules).1.getD s 0 ≤ e) := by
  have hsub : (sl l s e).Sublist l := (List.take_sublist _ _).trans (List.drop_sublist _ _)
  rw [Bool.eq_iff_iff, decide_eq_true_iff, ends_spec hn hse he, List.any_eq_true]
  constructor
  · rintro ⟨t, ht, hs⟩
    obtain ⟨n, w, hd, rfl⟩ := texts_words (List.mem_filter.mp ht).1
    refine ⟨n, w, hd, (map_sub hsg ?_ ?_).mp (List.isSublist_iff_sublist.mp hs)⟩
    · obtain ⟨body, hr, hbd⟩ := hd
      exact word_signs hb hbd (hb _ hr)
    · exact fun c hc => hl c (hsub.subset hc)
  · rintro ⟨n, w, hd, hs⟩
    obtain ⟨t, ht, hts⟩ := texts_cover (sg := sg) hd
    have h1 := hts.trans (hs.map sg)
    exact ⟨t, List.mem_filter.mpr ⟨ht, List.isSublist_iff_sublist.mpr (h1.trans (hsub.map sg))⟩, List.isSublist_iff_sublist.mpr h1⟩
end Mine

/-! PlainT -/
namespace Mine
open PySem PySem.W PySem.Calls PyProof.Rows PySem.Builtin PySem.Builtin.Str PySem.StrLaws
set_option Elab.async false
set_option maxRecDepth 100000

def exactL : List (List Nat × Int) := [([33], 54), ([33, 61], 28), ([37], 24), ([37, 61], 40), ([38], 19), ([38, 61], 41), ([40], 7), ([41], 8), ([42], 16), ([42, 42], 35), ([42, 42, 61], 46), ([42, 61], 38), ([43], 14), ([43, 61], 36), ([44], 12), ([45], 15), ([45, 61], 37), ([45, 62], 51), ([46], 23), ([46, 46, 46], 52), ([47], 17), ([47, 47], 47), ([47, 47, 61], 48), ([47, 61], 39), ([58], 11), ([58, 61], 53), ([59], 13), ([60], 20), ([60, 60], 33), ([60, 60, 61], 44), ([60, 61], 29), ([61], 22), ([61, 61], 27), ([62], 21), ([62, 61], 30), ([62, 62], 34), ([62, 62, 61], 45), ([64], 49), ([64, 61], 50), ([91], 9), ([93], 10), ([94], 32), ([94, 61], 43), ([123], 25), ([124], 18), ([124, 61], 42), ([125], 26), ([126], 31)]
def exactD : List (Str × PV) := exactL.map fun e => (ofL e.1, .int e.2)
theorem exact_vals : ∀ e ∈ exactD, ∃ i : Int, e.2 = .int i ∧ i < 256 := by
  have h : exactL.all (fun e => decide (e.2 < 256)) = true := by decide +kernel
  intro e he
  obtain ⟨x, hx, rfl⟩ := List.mem_map.mp he
  exact ⟨x.2, rfl, of_decide_eq_true (List.all_eq_true.mp h x hx)⟩

theorem ofL_inj {a b : List Nat} : ofL a = ofL b ↔ a = b := by
  constructor
  · intro h; have := congrArg (fun s : Str => s.cps.toList) h; simpa using this
  · rintro rfl; rfl
theorem look_exact (r : List Nat) : exactD.lookup (ofL r) = (exactL.lookup r).map .int := by
  unfold exactD
  induction exactL with
  | nil => rfl
  | cons e l ih =>
    rw [List.map_cons, lookup_cons_of, ih]
    obtain ⟨k, v⟩ := e
    by_cases q : r = k
    · subst q; rw [if_pos rfl]; simp
    · rw [if_neg (by rw [ofL_inj]; exact q), List.lookup_cons, (by simpa using q : (r == k) = false)]
def one1 : List Nat := [33, 37, 38, 40, 41, 42, 43, 44, 45, 46, 47, 58, 59, 60, 61, 62, 64, 91, 93, 94, 123, 124, 125, 126]
def two1 : List (Nat × Nat) := [(33, 61), (37, 61), (38, 61), (42, 42), (42, 61), (43, 61), (45, 61), (45, 62), (47, 47), (47, 61), (58, 61), (60, 60), (60, 61), (61, 61), (62, 61), (62, 62), (64, 61), (94, 61), (124, 61)]
def three1 : List (Nat × Nat × Nat) := [(42, 42, 61), (46, 46, 46), (47, 47, 61), (60, 60, 61), (62, 62, 61)]
def tkL : List Nat → Bool
  | [a] => one1.any fun x => Nat.beq x a
  | [a, b] => two1.any fun x => Nat.beq x.1 a && Nat.beq x.2 b
  | [a, b, c] => three1.any fun x => Nat.beq x.1 a && (Nat.beq x.2.1 b && Nat.beq x.2.2 c)
  | _ => false
theorem tk_mem (r : List Nat) : tkL r = true ↔ r ∈ exactL.map (·.1) := by
  have h1 : (exactL.map (·.1)).all tkL = true := by decide +kernel
  have h2 : one1.all (fun a => (exactL.map (·.1)).contains [a]) = true := by decide +kernel
  have h3 : two1.all (fun x => (exactL.map (·.1)).contains [x.1, x.2]) = true := by decide +kernel
  have h4 : three1.all (fun x => (exactL.map (·.1)).contains [x.1, x.2.1, x.2.2]) = true := by decide +kernel
  constructor
  · intro h
    unfold tkL at h
    split at h
    · obtain ⟨x, hx, e⟩ := List.any_eq_true.mp h
      rw [← Nat.eq_of_beq_eq_true e]
      exact List.contains_iff_mem.mp (List.all_eq_true.mp h2 x hx)
    · obtain ⟨x, hx, e⟩ := List.any_eq_true.mp h
      rw [Bool.and_eq_true] at e
      rw [← Nat.eq_of_beq_eq_true e.1, ← Nat.eq_of_beq_eq_true e.2]
      exact List.contains_iff_mem.mp (List.all_eq_true.mp h3 x hx)
    · obtain ⟨x, hx, e⟩ := List.any_eq_true.mp h
      rw [Bool.and_eq_true, Bool.and_eq_true] at e
      rw [← Nat.eq_of_beq_eq_true e.1, ← Nat.eq_of_beq_eq_true e.2.1, ← Nat.eq_of_beq_eq_true e.2.2]
      exact List.contains_iff_mem.mp (List.all_eq_true.mp h4 x hx)
    · cases h
  · exact fun h => List.all_eq_true.mp h1 r h
theorem look_mem {β : Type} (l : List (List Nat × β)) (r : List Nat) : (l.lookup r).isSome = true ↔ r ∈ l.map (·.1) := by
  induction l with
  | nil => simp
  | cons e l ih =>
    obtain ⟨k, v⟩ := e
    rw [List.lookup_cons, List.map_cons, List.mem_cons]
    by_cases q : r = k
    · subst q; simp
    · rw [(by simpa using q : (r == k) = false)]
      simp only [q, false_or]
      exact ih
theorem tk_exact (r : List Nat) : (exactD.lookup (ofL r)).isSome = tkL r := by
  rw [look_exact]
  have : ((exactL.lookup r).map PV.int).isSome = (exactL.lookup r).isSome := by cases exactL.lookup r <;> rfl
  rw [this, Bool.eq_iff_iff, look_mem, tk_mem]
theorem slice_idx (l : List Nat) (p n : Nat) : strSliceIndices (some (p : Int)) (some ((p : Int) + n)) 1 l.length = List.range' (min p l.length) (min (p + n) l.length - min p l.length) := by
  unfold strSliceIndices sliceRange
  simp only [show (1 : Int) > 0 by decide, if_true]
  rw [if_neg (by omega : ¬ ((p : Int) < 0)), if_neg (by omega : ¬ ((p : Int) + n < 0))]
  have ea : max 0 (min (p : Int) l.length) = ((min p l.length : Nat) : Int) := by omega
  have eb : max 0 (min ((p : Int) + n) l.length) = ((min (p + n) l.length : Nat) : Int) := by omega
  rw [ea, eb]
  generalize min p l.length = a
  generalize min (p + n) l.length = b
  rw [List.range'_eq_map_range]
  have ec : (if (a : Int) < (b : Int) then ((b : Int) - a + 1 - 1) / 1 else 0).toNat = b - a := by split <;> omega
  rw [ec]
  exact List.map_congr_left fun k _ => by omega
theorem pick_range (l : List Nat) : ∀ (k a : Nat), a + k ≤ l.length → (List.range' a k).filterMap (l.toArray[·]?) = (l.drop a).take k
  | 0, a, _ => by simp
  | k + 1, a, h => by
    have ha : a < l.length := by omega
    rw [List.range'_succ, List.filterMap_cons]
    have e : l.toArray[a]? = some l[a] := by simp [ha]
    rw [e, pick_range l k (a + 1) (by omega), List.drop_eq_getElem_cons ha, List.take_succ_cons]
theorem cut_ofL (l : List Nat) (p n : Nat) : cut (ofL l) p n = ofL ((l.drop p).take n) := by
  unfold cut Txt.slice
  have hl : (ofL l).length = l.length := by simp [Str.length]
  rw [hl, slice_idx]
  have hp := pick_range l (min (p + n) l.length - min p l.length) (min p l.length) (by omega)
  have key : (l.drop (min p l.length)).take (min (p + n) l.length - min p l.length) = (l.drop p).take n := by
    by_cases h : p ≤ l.length
    · rw [Nat.min_eq_left h]
      by_cases h2 : p + n ≤ l.length
      · rw [Nat.min_eq_left h2]; congr 1; omega
      · rw [List.take_of_length_le (i := min (p + n) l.length - p) (by rw [List.length_drop]; omega), List.take_of_length_le (by rw [List.length_drop]; omega)]
    · rw [List.drop_of_length_le (i := p) (by omega), List.drop_of_length_le (by omega)]; simp
  split
  · rename_i h
    simp only [Bool.and_eq_true, beq_iff_eq, List.length_range'] at h
    have h2 := h.2
    have hb : min (p + n) l.length = l.length := by omega
    have ha : min p l.length = 0 := by omega
    rw [← key, ha, hb]; simp
  · rw [← key, ← hp]
def szL (r : List Nat) : Nat := if tkL (r.take 3) then 3 else if tkL (r.take 2) then 2 else 1
def piecesL : Nat → List Nat → List (List Nat)
  | 0, _ => []
  | n + 1, r => if r = [] then [] else r.take (szL r) :: piecesL n (r.drop (szL r))

theorem szFrom_L (l : List Nat) (p : Nat) : szFrom exactD (ofL l) p 3 = szL (l.drop p) := by
  unfold szFrom szFrom szFrom
  rw [cut_ofL, cut_ofL, tk_exact, tk_exact, szL]
  cases tkL (List.take 3 (l.drop p)) <;> cases tkL (List.take 2 (l.drop p)) <;> simp
theorem pieces_L (l : List Nat) : ∀ (n p : Nat), piecesFrom exactD (ofL l) n p = (piecesL n (l.drop p)).map ofL
  | 0, _ => rfl
  | n + 1, p => by
    unfold piecesFrom piecesL
    have hl : (ofL l).length = l.length := by simp [Str.length]
    rw [hl]
    by_cases h : p < l.length
    · rw [if_pos h, if_neg (by intro q; have := congrArg List.length q; rw [List.length_drop] at this; simp at this; omega), szFrom_L, cut_ofL, pieces_L l n, List.drop_drop, List.map_cons]
    · rw [if_neg h, if_pos (List.drop_of_length_le (by omega))]; rfl
def upc (c : Nat) : Nat := if 97 ≤ c ∧ c ≤ 122 then c - 32 else c
def loc (c : Nat) : Nat := if 65 ≤ c ∧ c ≤ 90 then c + 32 else c
/-- the signs -/
def sigC : Nat → List Nat
  | 0 => [43] | 1 => [45] | 2 => [42, 42] | 3 => [47, 47] | 4 => [124] | 5 => [126] | 6 => [45, 62] | _ => [33, 61]
def letters : List (List Nat) := [[112], [113], [115], [80], [81], [83]]
def wordsT : List (List Nat) := (List.range 8).map sigC ++ [[112], [113], [115]]
theorem up_word : ∀ x ∈ wordsT, Txt.upper (ofL x) = ofL (x.map upc) := by
  have h : wordsT.all (fun x => Txt.upper (ofL x) == ofL (x.map upc)) = true := by decide +kernel
  exact fun x hx => beq_iff_eq.mp (List.all_eq_true.mp h x hx)
theorem lo_letter : ∀ x ∈ letters, Txt.lower (ofL x) = ofL (x.map loc) := by
  have h : letters.all (fun x => Txt.lower (ofL x) == ofL (x.map loc)) = true := by decide +kernel
  exact fun x hx => beq_iff_eq.mp (List.all_eq_true.mp h x hx)
theorem ofL_app (a b : List Nat) : ofL (a ++ b) = ofL a ++ ofL b := by
  apply Str.ext'
  apply Array.toList_inj.mp
  show (a ++ b).toArray.toList = (a.toArray ++ b.toArray).toList
  simp
theorem up_words : ∀ (w : List (List Nat)), (∀ x ∈ w, x ∈ wordsT) → Txt.upper (ofL w.flatten) = ofL (w.map (List.map upc)).flatten
  | [], _ => by decide +kernel
  | x :: w, h => by
    rw [List.flatten_cons, ofL_app, PySem.W.KOpn.upper_app, up_word x (h x List.mem_cons_self), up_words w (fun y hy => h y (List.mem_cons_of_mem _ hy)), List.map_cons, List.flatten_cons, ofL_app]
def upW (b : Bool) (x : List Nat) : List Nat := if b then x.map upc else x
theorem upIf_words (b : Bool) {w : List (List Nat)} (h : ∀ x ∈ w, x ∈ wordsT) : upIf b (ofL w.flatten) = ofL (w.map (upW b)).flatten := by
  unfold upIf
  cases b
  · show ofL w.flatten = _
    have : w.map (upW false) = w := by
      rw [show upW false = (fun x => x) from rfl]; simp
    rw [this]
  · show Txt.upper _ = _
    rw [up_words w h]; rfl
def partL (r : List Nat) : List Nat := if tkL r then tokL r else r.map loc
theorem part_L {r : List Nat} (h : (tkL r || letters.contains r) = true) : partS exactD (ofL r) = ofL (partL r) := by
  unfold partS partL
  rw [tk_exact]
  cases ht : tkL r with
  | true =>
    rw [if_pos rfl, if_pos rfl]
    have e : Str.ofString " " = ofL [32] := by decide +kernel
    rw [e, ← ofL_app, ← ofL_app]; rfl
  | false =>
    rw [ht, Bool.false_or] at h
    rw [if_neg (by decide), if_neg (by decide)]
    exact lo_letter r (List.contains_iff_mem.mp h)
def outL (x : List Nat) : List Nat := if letters.contains x then x else tokL x
def chkL (w : List (List Nat)) (b : Bool) : Bool :=
  let t := (w.map (upW b)).flatten
  let ps := piecesL t.length t
  (ps.map partL == w.map outL) && ps.all (fun r => (tkL r || letters.contains r) && !r.isEmpty && Nat.ble r.length 1000) && t.all (fun c => Nat.ble 32 c && Nat.ble c 126) && Nat.ble t.length 100
theorem too_small {n : Nat} (h : n ≤ 1000000) : PySem.Builtin.Str.tooLong n = false := by
  unfold PySem.Builtin.Str.tooLong
  have e2 : (sizeLine : Nat) ≥ 1000000 := by decide +kernel
  simp only [decide_eq_false_iff_not, Nat.not_lt]
  omega
structure Tokd (w : List (List Nat)) (b : Bool) : Prop where
  parts : (piecesFrom exactD (upIf b (ofL w.flatten)) (upIf b (ofL w.flatten)).length 0).map (partS exactD) = w.map fun x => ofL (outL x)
  ok : ∀ p ∈ piecesFrom exactD (upIf b (ofL w.flatten)) (upIf b (ofL w.flatten)).length 0, PieceOk p
  plain : Plain (upIf b (ofL w.flatten))
  len : (upIf b (ofL w.flatten)).length ≤ 100
theorem tokd {w : List (List Nat)} {b : Bool} (hw : ∀ x ∈ w, x ∈ wordsT) (h : chkL w b = true) : Tokd w b := by
  unfold chkL at h
  simp only [Bool.and_eq_true, beq_iff_eq, List.all_eq_true, Nat.ble_eq] at h
  obtain ⟨⟨⟨h1, h2⟩, h3⟩, h4⟩ := h
  have e := upIf_words b hw
  generalize (w.map (upW b)).flatten = t at *
  have hl : (ofL t).length = t.length := by simp [Str.length]
  have hp : piecesFrom exactD (ofL t) (ofL t).length 0 = (piecesL t.length t).map ofL := by rw [hl, pieces_L]; rfl
  rw [← e] at hp hl
  have hl' : (ofL t).length = t.length := by simp [Str.length]
  refine ⟨?_, ?_, ?_, ?_⟩
  · rw [e] at hp ⊢
    have h5 : (w.map fun x => ofL (outL x)) = ((piecesL t.length t).map partL).map ofL := by rw [h1, List.map_map]; rfl
    rw [hp, h5, List.map_map, List.map_map]
    refine List.map_congr_left fun r hr => ?_
    exact part_L (h2 r hr).1.1
  · rw [e] at hp ⊢
    rw [hp]
    intro p hpm
    obtain ⟨r, hr, rfl⟩ := List.mem_map.mp hpm
    obtain ⟨⟨_, a⟩, b⟩ := h2 r hr
    have hrl : (ofL r).length = r.length := by simp [Str.length]
    refine ⟨?_, by omega, ?_⟩
    · rw [hrl]
      exact List.length_pos_iff.mpr (by intro q; rw [q] at a; cases a)
    · refine too_small ?_
      have := PyProof.Rows.len_lower (ofL r)
      omega
  · rw [e]
    exact ⟨fun c hc => by have := h3 c (by simpa using hc); omega, by omega⟩
  · rw [e]; omega
/-- bodies of up to two parts -/
def bodies2 : List (List (List Nat)) := [] :: (wordsT.map (fun a => [a]) ++ wordsT.flatMap fun a => wordsT.map fun b => [a, b])
theorem chk2 : (bodies2.all fun w => chkL w false && chkL w true) = true := by decide +kernel
end Mine

/-! PlainD -/
namespace Mine
open PySem PySem.W PySem.Calls PyProof.Rows PySem.Challenge PySem.Builtin
set_option Elab.async false
set_option maxRecDepth 100000
set_option maxHeartbeats 4000000

theorem Bi.pow2 {C : Cx} {V : Vars} {M : Owns} {k : Nat} (hk : k < 1000) : Bi C V M (binaryOp .Pow) (.int 2) (.int k) (.int (2 ^ k)) := by
  by_cases h : k = 0
  · subst h
    exact fun ok B _ _ s Q E hE tk r1 r2 kk => by
      obtain ⟨t, rfl⟩ := r1; obtain ⟨u, rfl⟩ := r2
      exact AutoIntOps.pow_0 (by decide) (by decide) (kk _ s.heap (s.toks + 1) .rfl ⟨_, rfl⟩)
  · refine Bi.of_eq (Bi.pow_int (by omega) (by simp; omega) (by decide) (by decide) ?_) (by simp)
    unfold Builtin.Int.intTooBig
    have e1 : (Builtin.Int.intBits 2 : Int) = 2 := by decide +kernel
    have e2 : (bitsLine : Int) ≥ 1000000 := by decide +kernel
    rw [e1]
    simp only [decide_eq_true_eq, Int.not_lt]
    omega
theorem pickL_map {α β : Type} (f : α → β) (l : List α) (lo hi st : Option Int) : pickL (l.map f) lo hi st = (pickL l lo hi st).map f := by
  unfold pickL
  rw [List.length_map, List.map_filterMap]
  congr 1
  funext i
  rw [List.getElem?_map]
theorem joinFold {n : Nat} (l : List Str) : ∀ (acc : Nat), (∀ t ∈ l, t.length ≤ n) → l.foldl (fun a t => a + t.length + (Str.ofString "").length) acc ≤ acc + n * l.length := by
  have h0 : (Str.ofString "").length = 0 := by decide +kernel
  induction l with
  | nil => intro acc _; simp
  | cons t l ih =>
    intro acc h
    rw [List.foldl_cons, h0]
    have h1 := ih (acc + t.length + 0) fun u hu => h u (List.mem_cons_of_mem _ hu)
    have h2 := h t List.mem_cons_self
    rw [h0] at h1
    rw [List.length_cons, Nat.mul_succ]
    omega
theorem joinOk_small {texts : List Str} (h : ∀ t ∈ texts, t.length ≤ 100) (hl : texts.length ≤ 1000) : JoinOk "" texts = true := by
  have h1 := joinFold texts 0 h
  simp only [JoinOk, Bool.not_eq_true', List.foldl_toArray']
  unfold Str.tooLong
  have e2 : (sizeLine : Nat) ≥ 1000000 := by decide +kernel
  simp only [decide_eq_false_iff_not, Nat.not_lt]
  refine Nat.le_trans h1 ?_
  have : 100 * texts.length ≤ 100000 := by omega
  omega
def told1 : List Int := [2118, 327, 1191, 3238, 230, 1074]
def cutOf (script : List Int) : List Int := script.map fun x => x.fmod 1000000
def drawAt (script : List Int) (k : Nat) : Int := told1.getD k 0 + (pickL (cutOf script) (some k) none (some 6)).sum
def drawsOf (script : List Int) : List Int := (List.range 6).map (drawAt script)

def bitStr (d : Int) (k : Nat) : Str := Txt.item "01" ((d.fdiv (2 ^ k)).fmod 2)
def rowStr (d : Int) : Str := Txt.join "" ((List.range 5).map (bitStr d))
def firstOf (d : Int) : Int := (d.fdiv 32).fmod 8
def secondOf (d : Int) : Int := (firstOf d + 1 + (d.fdiv 256).fmod 7).fmod 8
def signsL : List Str := [Str.ofString "+", Str.ofString "-", Str.ofString "**", Str.ofString "//", Str.ofString "|", Str.ofString "~", Str.ofString "->", Str.ofString "!="]
def signAt (k : Int) : Str := signsL.getD k.toNat ⟨#[]⟩
def spOf (d : Int) : List (Str × Str) := [(Str.ofString "0", signAt (firstOf d)), (Str.ofString "1", signAt (secondOf d))]
theorem len_01 : Str.length (Str.ofString "01") = 2 := by decide +kernel
theorem signs_get {k : Int} (h0 : 0 ≤ k) (h1 : k < 8) : (signsL.map PV.str)[k.toNat]? = some (.str (signAt k)) := by
  obtain ⟨n, rfl⟩ := Int.eq_ofNat_of_zero_le h0
  have : n < 8 := by omega
  rw [Int.toNat_natCast, signAt, Int.toNat_natCast]
  match n, this with
  | 0, _ => rfl
  | 1, _ => rfl
  | 2, _ => rfl
  | 3, _ => rfl
  | 4, _ => rfl
  | 5, _ => rfl
  | 6, _ => rfl
  | 7, _ => rfl


def nameC (d : Int) : Nat := if d.fmod 2 = 0 then 112 else 113
def symC (k : Int) : Nat := [48, 49, 48, 49, 112, 113].getD k.toNat 0
def bodyL (d : Int) : List Nat := [symC ((d.fdiv 32).fmod 6), symC ((d.fdiv 192).fmod 6)].take (szOf d).toNat
def bitC (d : Int) (k : Nat) : Nat := if (d.fdiv (2 ^ k)).fmod 2 = 0 then 48 else 49
def rowL (d : Int) : List Nat := (List.range 5).map (bitC d)
def sgOf (d : Int) (c : Nat) : List Nat := if c = 48 then sigC (firstOf d).toNat else sigC (secondOf d).toNat
def rulesOf (ds : List Int) : Rules := ds.map fun d => (nameC d, bodyL d)
theorem name_ofL (d : Int) : nameOf d = ch (nameC d) := by
  have h := fmod_in (x := d) (m := 2) (by decide)
  unfold nameOf nameC
  generalize d.fmod 2 = k at *
  obtain ⟨n, rfl⟩ := Int.eq_ofNat_of_zero_le h.1
  match n, h.2 with
  | 0, _ => decide +kernel
  | 1, _ => decide +kernel
theorem nameC_in (d : Int) : nameC d = 112 ∨ nameC d = 113 := by unfold nameC; split <;> simp
theorem sym_ofL {k : Int} (h0 : 0 ≤ k) (h1 : k < 6) : symAt k = ofL [symC k] := by
  obtain ⟨n, rfl⟩ := Int.eq_ofNat_of_zero_le h0
  have : n < 6 := by omega
  match n, this with
  | 0, _ => decide +kernel
  | 1, _ => decide +kernel
  | 2, _ => decide +kernel
  | 3, _ => decide +kernel
  | 4, _ => decide +kernel
  | 5, _ => decide +kernel
theorem symC_in {k : Int} (h0 : 0 ≤ k) (h1 : k < 6) : symC k = 48 ∨ symC k = 49 ∨ symC k = 112 ∨ symC k = 113 := by
  obtain ⟨n, rfl⟩ := Int.eq_ofNat_of_zero_le h0
  have : n < 6 := by omega
  match n, this with
  | 0, _ => decide
  | 1, _ => decide
  | 2, _ => decide
  | 3, _ => decide
  | 4, _ => decide
  | 5, _ => decide
theorem sz_in (d : Int) : 0 ≤ szOf d ∧ szOf d ≤ 2 := by
  have h := fmod_in (x := d.fdiv 2) (m := 16) (by decide)
  unfold szOf
  generalize (d.fdiv 2).fmod 16 = k at *
  have : (k + 1).fdiv 2 = (k + 1) / 2 := by rw [Int.fdiv_eq_ediv_of_nonneg _ (by decide)]
  rw [this]
  split <;> omega
theorem slice_none (l : List Nat) (n : Nat) (h : n ≤ l.length) : Txt.slice (ofL l) none (some (n : Int)) = ofL (l.take n) := by
  have h0 := cut_ofL l 0 n
  unfold cut at h0
  have e : Txt.slice (ofL l) none (some (n : Int)) = Txt.slice (ofL l) (some ((0 : Nat) : Int)) (some (((0 : Nat) : Int) + n)) := by
    unfold Txt.slice PySem.Builtin.Str.strSliceIndices
    have : max 0 (min (0 : Int) ((ofL l).length : Int)) = 0 := by omega
    simp [this]
  rw [e, h0]; rfl
theorem body_ofL (d : Int) : bodyOf d = ofL (bodyL d) := by
  have h1 := fmod_in (x := d.fdiv 32) (m := 6) (by decide)
  have h2 := fmod_in (x := d.fdiv 192) (m := 6) (by decide)
  have h3 := sz_in d
  unfold bodyOf bodyL
  rw [sym_ofL h1.1 h1.2, sym_ofL h2.1 h2.2, ← ofL_app]
  obtain ⟨n, e⟩ := Int.eq_ofNat_of_zero_le h3.1
  rw [e]
  exact slice_none _ n (by simp; omega)
theorem bodyL_in (d : Int) : ∀ c ∈ bodyL d, c = 48 ∨ c = 49 ∨ c = 112 ∨ c = 113 := by
  have h1 := fmod_in (x := d.fdiv 32) (m := 6) (by decide)
  have h2 := fmod_in (x := d.fdiv 192) (m := 6) (by decide)
  intro c hc
  have := List.mem_of_mem_take hc
  simp only [List.mem_cons, List.not_mem_nil, or_false] at this
  rcases this with rfl | rfl
  · exact symC_in h1.1 h1.2
  · exact symC_in h2.1 h2.2
theorem bodyL_len (d : Int) : (bodyL d).length ≤ 2 := by
  unfold bodyL
  exact Nat.le_trans (List.length_take_le' _ _) (by simp)
theorem bit_ofL (d : Int) (k : Nat) : bitStr d k = ch (bitC d k) := by
  have h := fmod_in (x := d.fdiv (2 ^ k)) (m := 2) (by decide)
  unfold bitStr bitC
  generalize (d.fdiv (2 ^ k)).fmod 2 = k at *
  obtain ⟨n, rfl⟩ := Int.eq_ofNat_of_zero_le h.1
  match n, h.2 with
  | 0, _ => decide +kernel
  | 1, _ => decide +kernel
theorem joinL_nil : ∀ (l : List (List Nat)), joinL [] l = l.flatten
  | [] => rfl
  | [p] => by simp [joinL]
  | p :: q :: r => by rw [joinL, joinL_nil (q :: r), List.flatten_cons]; rfl
theorem join_none (l : List Str) : (Txt.join "" l).cps.toList = (l.map fun s => s.cps.toList).flatten := by
  have h := glued_ofL [] (l.map fun s => s.cps.toList)
  rw [joinL_nil, List.map_map] at h
  have e : (ofL ∘ fun s : Str => s.cps.toList) = _root_.id := funext fun s => by cases s; rfl
  rw [e, List.map_id] at h
  rw [← h]
  have e2 : Str.ofString "" = ofL [] := by decide +kernel
  show (PySem.Builtin.Str.glued (Str.ofString "") l).cps.toList = _
  rw [e2]
theorem row_ofL (d : Int) : rowStr d = ofL (rowL d) := by
  apply Str.ext'
  apply Array.toList_inj.mp
  unfold rowStr
  rw [join_none, List.map_map]
  show _ = rowL d
  unfold rowL
  rw [show ((fun s : Str => s.cps.toList) ∘ bitStr d) = fun k => [bitC d k] from funext fun k => by show (bitStr d k).cps.toList = _; rw [bit_ofL], ← List.flatMap_def, flat_one]
theorem rowL_in (d : Int) : ∀ c ∈ rowL d, c = 48 ∨ c = 49 := by
  intro c hc
  obtain ⟨k, _, rfl⟩ := List.mem_map.mp hc
  unfold bitC; split <;> simp
theorem rowL_len (d : Int) : (rowL d).length = 5 := by simp [rowL]
theorem sign_ofL {k : Int} (h0 : 0 ≤ k) (h1 : k < 8) : signAt k = ofL (sigC k.toNat) := by
  obtain ⟨n, rfl⟩ := Int.eq_ofNat_of_zero_le h0
  have : n < 8 := by omega
  rw [signAt, Int.toNat_natCast]
  match n, this with
  | 0, _ => decide +kernel
  | 1, _ => decide +kernel
  | 2, _ => decide +kernel
  | 3, _ => decide +kernel
  | 4, _ => decide +kernel
  | 5, _ => decide +kernel
  | 6, _ => decide +kernel
  | 7, _ => decide +kernel
theorem sig_inj : ∀ i, i < 8 → ∀ j, j < 8 → sigC i = sigC j → i = j := by decide
theorem sig_in : ∀ i, i < 8 → sigC i ∈ wordsT := by decide
theorem sig_ok : ∀ i, i < 8 → (sigC i ≠ [] ∧ 32 ∉ sigC i ∧ 46 ∉ sigC i) ∧ letters.contains (sigC i) = false ∧ (sigC i).length ≤ 2 := by decide
theorem first_in (d : Int) : 0 ≤ firstOf d ∧ firstOf d < 8 := fmod_in (by decide)
theorem second_in (d : Int) : 0 ≤ secondOf d ∧ secondOf d < 8 := fmod_in (by decide)
theorem first_second (d : Int) : firstOf d ≠ secondOf d := by
  have h1 := first_in d
  have h2 := fmod_in (x := d.fdiv 256) (m := 7) (by decide)
  unfold secondOf
  generalize (d.fdiv 256).fmod 7 = r at *
  generalize firstOf d = k at *
  rw [Int.fmod_eq_emod_of_nonneg _ (by decide)]
  omega
theorem sg_ne (d : Int) : sgOf d 48 ≠ sgOf d 49 := by
  unfold sgOf
  rw [if_pos rfl, if_neg (by decide)]
  intro h
  have h1 := first_in d
  have h2 := second_in d
  have := sig_inj _ (by omega) _ (by omega) h
  exact first_second d (by omega)
theorem sg_cases (d : Int) (c : Nat) : ∃ i, i < 8 ∧ sgOf d c = sigC i := by
  have h1 := first_in d
  have h2 := second_in d
  unfold sgOf
  split
  · exact ⟨_, by omega, rfl⟩
  · exact ⟨_, by omega, rfl⟩
theorem sg_Sg (d : Int) (c : Nat) : Sg (sgOf d c) := by
  obtain ⟨i, hi, e⟩ := sg_cases d c
  rw [e]
  exact ⟨(sig_ok i hi).1.1, (sig_ok i hi).1.2.1, (sig_ok i hi).1.2.2⟩
theorem sg_len (d : Int) (c : Nat) : (sgOf d c).length ≤ 2 := by
  obtain ⟨i, hi, e⟩ := sg_cases d c
  rw [e]; exact (sig_ok i hi).2.2
/-- a part of a body as it is written -/
def symW (d : Int) (c : Nat) : List Nat := if c = 112 ∨ c = 113 then [c] else sgOf d c
theorem symW_in (d : Int) (c : Nat) : symW d c ∈ wordsT := by
  unfold symW
  split
  · rename_i h
    rcases h with rfl | rfl <;> decide
  · obtain ⟨i, hi, e⟩ := sg_cases d c
    rw [e]; exact sig_in i hi
theorem symW_out (d : Int) (c : Nat) : ofL (outL (symW d c)) = (symOf (sgOf d) c).str := by
  unfold symW symOf
  split
  · rename_i h
    rcases h with rfl | rfl <;> rfl
  · obtain ⟨i, hi, e⟩ := sg_cases d c
    unfold outL
    rw [e, (sig_ok i hi).2.1]; rfl
theorem spell_sym (d : Int) {c : Nat} (hc : c = 48 ∨ c = 49 ∨ c = 112 ∨ c = 113) : spell (spOf d) (ch c) = ofL (symW d c) := by
  have h1 := first_in d
  have h2 := second_in d
  have e0 : Str.ofString "0" = ch 48 := by decide +kernel
  have e1 : Str.ofString "1" = ch 49 := by decide +kernel
  unfold spell spOf
  rw [e0, e1, lookup_cons_of, lookup_cons_of, List.lookup_nil]
  unfold symW sgOf
  rcases hc with rfl | rfl | rfl | rfl
  · rw [if_pos rfl]; exact sign_ofL h1.1 h1.2
  · rw [if_neg (by rw [one_inj]; decide), if_pos rfl]; exact sign_ofL h2.1 h2.2
  · rw [if_neg (by rw [one_inj]; decide), if_neg (by rw [one_inj]; decide)]; rfl
  · rw [if_neg (by rw [one_inj]; decide), if_neg (by rw [one_inj]; decide)]; rfl
theorem val_ofL (d5 d : Int) : valOf (spOf d5) (bodyOf d) = ofL ((bodyL d).map (symW d5)).flatten := by
  apply Str.ext'
  apply Array.toList_inj.mp
  unfold valOf
  rw [join_none, body_ofL, List.map_map]
  show (List.map _ (bodyL d)).flatten = _
  show _ = ((bodyL d).map (symW d5)).flatten
  congr 1
  refine List.map_congr_left fun c hc => ?_
  show (spell (spOf d5) (ch c)).cps.toList = _
  rw [spell_sym d5 (bodyL_in d c hc)]
theorem bodies_mem {w : List (List Nat)} (h : ∀ x ∈ w, x ∈ wordsT) (hl : w.length ≤ 2) : w ∈ bodies2 := by
  unfold bodies2
  match w, h, hl with
  | [], _, _ => exact List.mem_cons_self
  | [a], h, _ => exact List.mem_cons_of_mem _ (List.mem_append_left _ (List.mem_map.mpr ⟨a, h a List.mem_cons_self, rfl⟩))
  | [a, b], h, _ => exact List.mem_cons_of_mem _ (List.mem_append_right _ (List.mem_flatMap.mpr ⟨a, h a List.mem_cons_self, List.mem_map.mpr ⟨b, h b (List.mem_cons_of_mem _ List.mem_cons_self), rfl⟩⟩))
theorem tokd_of (d5 d : Int) (b : Bool) : Tokd ((bodyL d).map (symW d5)) b := by
  have hw : ∀ x ∈ (bodyL d).map (symW d5), x ∈ wordsT := fun x hx => by
    obtain ⟨c, _, rfl⟩ := List.mem_map.mp hx
    exact symW_in d5 c
  have h := List.all_eq_true.mp chk2 _ (bodies_mem hw (by rw [List.length_map]; exact bodyL_len d))
  rw [Bool.and_eq_true] at h
  cases b
  · exact tokd hw h.1
  · exact tokd hw h.2
theorem row_ok (d5 d : Int) : RowOk (spOf d5) (d, nameOf d, bodyOf d) := by
  have hup : ∀ x ∈ [([112] : List Nat), [113]], Txt.upper (ofL x) = ofL (x.map upc) := fun x hx => up_word x (by
    simp only [List.mem_cons, List.not_mem_nil, or_false] at hx
    rcases hx with rfl | rfl <;> decide)
  have hn : nameOf d = ofL [nameC d] := name_ofL d
  have hin : [nameC d] ∈ [([112] : List Nat), [113]] := by rcases nameC_in d with h | h <;> rw [h] <;> decide
  refine ⟨?_, ?_, ?_, ?_, ?_, ?_⟩
  · refine joinOk_small (fun t ht => ?_) ?_
    · obtain ⟨c, hc, rfl⟩ := List.mem_map.mp ht
      rw [body_ofL] at hc
      rw [spell_sym d5 (bodyL_in d c hc)]
      have : (ofL (symW d5 c)).length = (symW d5 c).length := by simp [Str.length]
      rw [this]
      unfold symW
      split
      · simp
      · have := sg_len d5 c; omega
    · rw [List.length_map, body_ofL]; exact Nat.le_trans (bodyL_len d) (by decide)
  · show (bodyOf d).cps.toList.length ≤ _
    rw [body_ofL]; exact Nat.le_trans (bodyL_len d) (by decide)
  · show PySem.Builtin.Str.tooLong (Txt.upper (valOf (spOf d5) (bodyOf d))).length = false
    rw [val_ofL]
    have := (tokd_of d5 d true).len
    exact too_small (by show (upIf true _).length ≤ _; omega)
  · show PySem.Builtin.Str.tooLong (Txt.upper (nameOf d)).length = false
    rw [hn, hup _ hin]
    exact too_small (by simp [Str.length])
  · show Plain (upIf (bit d 1152) (nameOf d))
    unfold upIf
    rw [hn]
    cases bit d 1152
    · rcases nameC_in d with h | h <;> rw [h] <;> exact ⟨by decide, by decide⟩
    · rw [if_pos rfl, hup _ hin]
      rcases nameC_in d with h | h <;> rw [h] <;> exact ⟨by decide, by decide⟩
  · show Plain (upIf (bit d 2304) (valOf (spOf d5) (bodyOf d)))
    rw [val_ofL]
    exact (tokd_of d5 d _).plain
end Mine

/-! PlainG -/
namespace Mine
open PySem PySem.W PySem.Calls PyProof.Rows PySem.Challenge PySem.Builtin
set_option Elab.async false
set_option maxRecDepth 100000
set_option maxHeartbeats 4000000

abbrev esOf (ds : List Int) : List (Int × Str × Str) := ds.map fun d => (d, nameOf d, bodyOf d)
abbrev rowsOf (d5 : Int) (ds : List Int) : List (Str × Str) := (esOf ds).map (rowOf (spOf d5))
theorem name_low (d : Int) (b : Bool) : Txt.lower (upIf b (nameOf d)) = ofL [nameC d] := by
  have hn : nameOf d = ofL [nameC d] := name_ofL d
  have h1 : Txt.lower (ofL [112]) = ofL [112] := by decide +kernel
  have h2 : Txt.lower (ofL [113]) = ofL [113] := by decide +kernel
  have h3 : Txt.lower (Txt.upper (ofL [112])) = ofL [112] := by decide +kernel
  have h4 : Txt.lower (Txt.upper (ofL [113])) = ofL [113] := by decide +kernel
  rw [hn]
  unfold upIf
  rcases nameC_in d with h | h <;> rw [h] <;> cases b
  · exact h1
  · exact h3
  · exact h2
  · exact h4
/-- the names asked for -/
structure AskN (n : Str) (c : Nat) : Prop where
  lo : Txt.lower n = ofL [c]
  hc : c = 112 ∨ c = 113
theorem ask_P : AskN (Str.ofString "P") 112 := ⟨by decide +kernel, .inl rfl⟩
theorem ask_Q : AskN (Str.ofString "Q") 113 := ⟨by decide +kernel, .inr rfl⟩
theorem rows_asked (d5 : Int) {n : Str} {c : Nat} (a : AskN n c) (ds : List Int) :
    ((rowsOf d5 ds).filter fun r => Txt.lower r.1 == Txt.lower n).map (·.2) = (ds.filter fun d => nameC d == c).map fun d => upIf (bit d 2304) (valOf (spOf d5) (bodyOf d)) := by
  unfold rowsOf esOf
  rw [List.map_map]
  induction ds with
  | nil => rfl
  | cons d ds ih =>
    have e : (Txt.lower (rowOf (spOf d5) (d, nameOf d, bodyOf d)).1 == Txt.lower n) = (nameC d == c) := by
      show (Txt.lower (upIf (bit d 1152) (nameOf d)) == Txt.lower n) = _
      rw [name_low, a.lo, Bool.eq_iff_iff, beq_iff_eq, beq_iff_eq, ofL_inj]
      simp
    rw [List.map_cons, List.filter_cons, List.filter_cons]
    show (if (Txt.lower (rowOf (spOf d5) (d, nameOf d, bodyOf d)).1 == Txt.lower n) = true then _ else _ : List _).map _ = _
    rw [e]
    cases nameC d == c
    · exact ih
    · rw [if_pos rfl, if_pos rfl, List.map_cons, List.map_cons, ih]; rfl
theorem gram_asked (d5 : Int) (c : Nat) (ds : List Int) : gramOf (sgOf d5) (rulesOf ds) c = (ds.filter fun d => nameC d == c).map fun d => (bodyL d).map (symOf (sgOf d5)) := by
  unfold gramOf rulesOf
  induction ds with
  | nil => rfl
  | cons d ds ih =>
    rw [List.map_cons, List.filter_cons, List.filter_cons]
    show (if (nameC d == c) = true then _ else _ : List _).map _ = _
    cases nameC d == c
    · exact ih
    · rw [if_pos rfl, if_pos rfl, List.map_cons, List.map_cons, ih]
theorem rows_gram (d5 : Int) (c : Nat) (ds : List Int) :
    PV.list (((ds.filter fun d => nameC d == c).map fun d => upIf (bit d 2304) (valOf (spOf d5) (bodyOf d))).map fun v => .list (((piecesFrom exactD v v.length 0).map (partS exactD)).map .str)) = rowsPV (gramOf (sgOf d5) (rulesOf ds) c) := by
  rw [gram_asked, rowsPV, List.map_map, List.map_map]
  congr 1
  refine List.map_congr_left fun d _ => ?_
  show PV.list (((piecesFrom exactD (upIf (bit d 2304) (valOf (spOf d5) (bodyOf d))) (upIf (bit d 2304) (valOf (spOf d5) (bodyOf d))).length 0).map (partS exactD)).map .str) = PV.list (((bodyL d).map (symOf (sgOf d5))).map fun y => .str y.str)
  rw [val_ofL, (tokd_of d5 d (bit d 2304)).parts, List.map_map, List.map_map, List.map_map]
  congr 1
  refine List.map_congr_left fun c _ => ?_
  show PV.str (ofL (outL (symW d5 c))) = PV.str (symOf (sgOf d5) c).str
  rw [symW_out]
theorem gram_ok (d5 : Int) (ds : List Int) : ∀ c, ∀ row ∈ gramOf (sgOf d5) (rulesOf ds) c, ∀ y ∈ row, SyOk y := by
  intro c row hr y hy
  rw [gram_asked] at hr
  obtain ⟨d, _, rfl⟩ := List.mem_map.mp hr
  obtain ⟨x, _, rfl⟩ := List.mem_map.mp hy
  unfold symOf
  split
  · rename_i h; exact h
  · exact sg_Sg d5 x
theorem gram_len (d5 : Int) (ds : List Int) (hl : ds.length ≤ 5) (c : Nat) : (gramOf (sgOf d5) (rulesOf ds) c).length ≤ 5 ∧ ∀ row ∈ gramOf (sgOf d5) (rulesOf ds) c, row.length ≤ 2 := by
  rw [gram_asked]
  refine ⟨?_, ?_⟩
  · rw [List.length_map]; exact Nat.le_trans (List.length_filter_le _ _) hl
  · intro row hr
    obtain ⟨d, _, rfl⟩ := List.mem_map.mp hr
    rw [List.length_map]; exact bodyL_len d
theorem rules_eq (ds : List Int) : (ds.map ruleOf).map pairPV = ((rulesOf ds).map fun r => ((PV.str (ch r.1), PV.str (ofL r.2)) : PV × PV)).map pairPV := by
  unfold rulesOf
  rw [List.map_map, List.map_map, List.map_map]
  refine List.map_congr_left fun d _ => ?_
  show pairPV (.str (nameOf d), .str (bodyOf d)) = pairPV (.str (ch (nameC d)), .str (ofL (bodyL d)))
  rw [name_ofL, body_ofL]
theorem rules_names (ds : List Int) : ∀ r ∈ rulesOf ds, r.1 = 112 ∨ r.1 = 113 := by
  intro r hr
  obtain ⟨d, _, rfl⟩ := List.mem_map.mp hr
  exact nameC_in d
theorem rules_syms (ds : List Int) : ∀ r ∈ rulesOf ds, ∀ c ∈ r.2, c = 48 ∨ c = 49 ∨ c = 112 ∨ c = 113 := by
  intro r hr
  obtain ⟨d, _, rfl⟩ := List.mem_map.mp hr
  exact bodyL_in d

/-- how large the texts grow -/
structure Bnd (L : List (List (List Nat))) (n m : Nat) (d5 : Int) : Prop where
  n : L.length ≤ n
  t : ∀ t ∈ L, t.length ≤ m ∧ ∀ s ∈ t, ∃ c, s = sgOf d5 c
theorem enc_bound {d5 : Int} : ∀ {t : List (List Nat)}, (∀ s ∈ t, ∃ c, s = sgOf d5 c) → (∀ s ∈ t, Sg s) ∧ (encL t).length ≤ 4 * t.length
  | [], _ => ⟨fun _ h => absurd h List.not_mem_nil, Nat.le_refl _⟩
  | s :: t, h => by
    obtain ⟨a, b⟩ := enc_bound (t := t) fun x hx => h x (List.mem_cons_of_mem _ hx)
    obtain ⟨c, rfl⟩ := h s List.mem_cons_self
    refine ⟨fun x hx => ?_, ?_⟩
    · rcases List.mem_cons.mp hx with rfl | q
      · exact sg_Sg d5 c
      · exact a x q
    · rw [encL_cons, List.length_append, tok_len, List.length_cons]
      have := sg_len d5 c
      omega
theorem grow_bnd {d5 : Int} {tl : Sy → List (List (List Nat))} {n m : Nat} (hn : 1 ≤ n) : ∀ (row : List Sy), (∀ y ∈ row, Bnd (tl y) n m d5) → Bnd (growOf tl row) (n ^ row.length) (m * row.length) d5
  | [], _ => by
    refine ⟨by simp [growOf], fun t ht => ?_⟩
    have : t = [] := by simpa [growOf] using ht
    subst this
    exact ⟨Nat.zero_le _, fun s hs => absurd hs List.not_mem_nil⟩
  | y :: row, h => by
    have a := h y List.mem_cons_self
    have b := grow_bnd (d5 := d5) (n := n) (m := m) hn row fun z hz => h z (List.mem_cons_of_mem _ hz)
    have cnt : ∀ (G : List (List (List Nat))) (r : List Sy), (r.foldl (fun g p => g.flatMap fun t => (tl p).map fun u => t ++ u) G).length = G.length * (growOf tl r).length := by
      intro G r
      induction r generalizing G with
      | nil => simp [growOf]
      | cons z r ih =>
        have h1 : growOf tl (z :: r) = r.foldl (fun g p => g.flatMap fun t => (tl p).map fun u => t ++ u) ([[]].flatMap fun t => (tl z).map fun u => t ++ u) := rfl
        rw [List.foldl_cons, ih, h1, ih, ← Nat.mul_assoc]
        congr 1
        simp [List.length_flatMap]
        induction G with
        | nil => simp
        | cons g G ih2 => simp [ih2, Nat.succ_mul]; omega
    refine ⟨?_, fun t ht => ?_⟩
    · have : growOf tl (y :: row) = row.foldl (fun g p => g.flatMap fun t => (tl p).map fun u => t ++ u) ([[]].flatMap fun t => (tl y).map fun u => t ++ u) := rfl
      rw [this, cnt, List.length_cons, Nat.pow_succ, Nat.mul_comm]
      refine Nat.mul_le_mul b.n ?_
      simpa using a.n
    · obtain ⟨u, hu, t', ht', rfl⟩ := grow_cons.mp ht
      obtain ⟨u1, u2⟩ := a.t u hu
      obtain ⟨t1, t2⟩ := b.t t' ht'
      refine ⟨?_, fun s hs => ?_⟩
      · rw [List.length_append, List.length_cons, Nat.mul_succ]; omega
      · rcases List.mem_append.mp hs with q | q
        · exact u2 s q
        · exact t2 s q
theorem adds_bnd {d5 : Int} {m : Nat} : ∀ (l : List (List (List Nat))) (T : List (List (List Nat))) {k : Nat}, (∀ t ∈ l, t.length ≤ m ∧ ∀ s ∈ t, ∃ c, s = sgOf d5 c) → Bnd T k m d5 → Bnd (l.foldl addText T) (k + l.length) m d5
  | [], _, _, _, h => h
  | a :: l, T, k, hl, h => by
    have h1 : Bnd (addText T a) (k + 1) m d5 := by
      unfold addText
      split
      · exact ⟨Nat.le_succ_of_le h.n, h.t⟩
      · refine ⟨by rw [List.length_append]; have := h.n; simp; omega, fun t ht => ?_⟩
        rcases List.mem_append.mp ht with q | q
        · exact h.t t q
        · rw [List.mem_singleton.mp q]; exact hl a List.mem_cons_self
    have := adds_bnd l _ (fun t ht => hl t (List.mem_cons_of_mem _ ht)) h1
    rw [List.length_cons, show k + (l.length + 1) = k + 1 + l.length by omega]
    exact this
theorem rows_bnd {d5 : Int} {tl : Sy → List (List (List Nat))} {n m : Nat} : ∀ (rows : List (List Sy)) (T : List (List (List Nat))) {k : Nat}, (∀ row ∈ rows, Bnd (growOf tl row) n m d5) → Bnd T k m d5 → Bnd (foldRows tl rows T) (k + n * rows.length) m d5
  | [], _, _, _, h => h
  | r :: rows, T, k, hr, h => by
    have hg := hr r List.mem_cons_self
    have h1 := adds_bnd (growOf tl r) T hg.t h
    have h2 : Bnd ((growOf tl r).foldl addText T) (k + n) m d5 := ⟨Nat.le_trans h1.n (by have := hg.n; omega), h1.t⟩
    have := rows_bnd rows _ (fun row hrow => hr row (List.mem_cons_of_mem _ hrow)) h2
    rw [List.length_cons, Nat.mul_succ, show k + (n * rows.length + n) = k + n + n * rows.length by omega]
    exact this
theorem Bnd.mono {d5 : Int} {L : List (List (List Nat))} {n m n' m' : Nat} (h : Bnd L n m d5) (hn : n ≤ n') (hm : m ≤ m') : Bnd L n' m' d5 := ⟨Nat.le_trans h.n hn, fun t ht => ⟨Nat.le_trans (h.t t ht).1 hm, (h.t t ht).2⟩⟩
theorem tail_bnd {d5 : Int} {rec : Nat → List (List (List Nat))} {above : List Nat} {n m : Nat} (hn : 1 ≤ n) (hm : 1 ≤ m) (hrec : ∀ d, (d = 112 ∨ d = 113) → above.contains d = false → Bnd (rec d) n m d5) (c : Nat) : Bnd (tailsOf rec above (symOf (sgOf d5) c)) n m d5 := by
  unfold symOf
  split
  · rename_i hc
    show Bnd (if above.contains c then [] else rec c) n m d5
    split
    · exact ⟨Nat.zero_le _, fun _ h => nomatch h⟩
    · rename_i h; exact hrec c hc (by simpa using h)
  · exact ⟨hn, fun t ht => by rw [List.mem_singleton.mp ht]; exact ⟨hm, fun s hs => ⟨c, List.mem_singleton.mp hs⟩⟩⟩
theorem level_bnd {d5 : Int} {ds : List Int} (hl : ds.length ≤ 5) {rec : Nat → List (List (List Nat))} {above : List Nat} {n m : Nat} (hn : 1 ≤ n) (hm : 1 ≤ m) (hrec : ∀ d, (d = 112 ∨ d = 113) → above.contains d = false → Bnd (rec d) n m d5) (c : Nat) :
    (∀ row ∈ gramOf (sgOf d5) (rulesOf ds) c, ∀ pre, pre <+: row → Bnd (growOf (tailsOf rec above) pre) (n ^ 2) (m * 2) d5) ∧ Bnd (foldRows (tailsOf rec above) (gramOf (sgOf d5) (rulesOf ds) c) []) (5 * n ^ 2) (m * 2) d5 := by
  have hg : ∀ row ∈ gramOf (sgOf d5) (rulesOf ds) c, ∀ pre, pre <+: row → Bnd (growOf (tailsOf rec above) pre) (n ^ 2) (m * 2) d5 := by
    intro row hr pre hp
    have hlen := (gram_len d5 ds hl c).2 row hr
    have hpl := hp.length_le
    have := grow_bnd (d5 := d5) (tl := tailsOf rec above) (n := n) (m := m) hn pre (fun y hy => by
      have hy' := hp.subset hy
      rw [gram_asked] at hr
      obtain ⟨d, _, rfl⟩ := List.mem_map.mp hr
      obtain ⟨x, _, rfl⟩ := List.mem_map.mp hy'
      exact tail_bnd hn hm hrec x)
    exact this.mono (Nat.pow_le_pow_right hn (by omega)) (Nat.mul_le_mul_left _ (by omega))
  refine ⟨hg, ?_⟩
  have := rows_bnd (d5 := d5) (tl := tailsOf rec above) (n := n ^ 2) (m := m * 2) (gramOf (sgOf d5) (rulesOf ds) c) [] (k := 0) (fun row hr => hg row hr row ⟨[], by simp⟩) ⟨Nat.zero_le _, fun _ h => nomatch h⟩
  refine this.mono ?_ (Nat.le_refl _)
  have h5 := (gram_len d5 ds hl c).1
  rw [Nat.zero_add, Nat.mul_comm]
  exact Nat.mul_le_mul_right _ h5
theorem small_of {d5 : Int} {ds : List Int} (hl : ds.length ≤ 5) {rec : Nat → List (List (List Nat))} {above : List Nat} {c n m : Nat} (h2 : n ^ 2 ≤ 1000) (h3 : m ≤ 100)
    (h : ∀ row ∈ gramOf (sgOf d5) (rulesOf ds) c, ∀ pre, pre <+: row → Bnd (growOf (tailsOf rec above) pre) (n ^ 2) (m * 2) d5) : Small (tailsOf rec above) (gramOf (sgOf d5) (rulesOf ds) c) := by
  refine ⟨fun row hr pre hp => ?_, Nat.le_trans (gram_len d5 ds hl c).1 (by decide)⟩
  have b := h row hr pre hp
  refine ⟨Nat.le_trans b.n h2, fun t ht => ?_⟩
  obtain ⟨t1, t2⟩ := b.t t ht
  obtain ⟨e1, e2⟩ := enc_bound t2
  exact ⟨e1, by omega⟩
theorem bnd1 {d5 : Int} {ds : List Int} (hl : ds.length ≤ 5) : Small (tailsOf (fun _ => []) [112, 113]) (gramOf (sgOf d5) (rulesOf ds) 113) ∧ Bnd (texts1 (sgOf d5) (rulesOf ds)) 5 2 d5 := by
  have h := level_bnd (d5 := d5) hl (rec := fun _ => []) (above := [112, 113]) (n := 1) (m := 1) (by decide) (by decide) (fun d hd ha => (above2 hd ha).elim) 113
  exact ⟨small_of hl (by decide) (by decide) h.1, h.2⟩
theorem bnd2 {d5 : Int} {ds : List Int} (hl : ds.length ≤ 5) : Small (tailsOf (fun _ => texts1 (sgOf d5) (rulesOf ds)) [112]) (gramOf (sgOf d5) (rulesOf ds) 112) ∧ Bnd (texts2 (sgOf d5) (rulesOf ds)) 125 4 d5 := by
  have h := level_bnd (d5 := d5) hl (rec := fun _ => texts1 (sgOf d5) (rulesOf ds)) (above := [112]) (n := 5) (m := 2) (by decide) (by decide) (fun d _ _ => (bnd1 hl).2) 112
  exact ⟨small_of hl (by decide) (by decide) h.1, h.2⟩
end Mine

/-! HeadT -/
namespace Mine
open PySem PySem.W PySem.Calls PyProof.Rows

def impRunT (tb : String → Option Builtin) (p : Program) (w : World) : Nat → SharedT → Thread → Option SharedT
  | 0, _, _ => none
  | n + 1, s, t => match t.atExitBegin with
    | some [] => some s
    | some (_ :: _) => none
    | none => match stepT (denote tb) p w s t with
      | some (s', t') => impRunT tb p w n s' t'
      | none => none
theorem impRun_of {tb : String → Option Builtin} {p : Program} {w : World} : ∀ {n : Nat} {s s' : SharedT} {t : Thread},
    impRunT tb p w n s t = some s' → importEnds tb p w n s.abs t = some s'.abs
  | 0, _, _, _, h => by cases h
  | n + 1, s, s', t, h => by
    unfold impRunT at h
    unfold importEnds
    cases he : t.atExitBegin with
    | some x =>
      rw [he] at h
      cases x with
      | nil => cases h; rfl
      | cons _ _ => cases h
    | none =>
      rw [he] at h
      cases hs : stepT (denote tb) p w s t with
      | none => rw [hs] at h; cases h
      | some r =>
        obtain ⟨s₂, t₂⟩ := r
        rw [hs] at h
        dsimp only
        rw [stepT_spec hs]
        exact impRun_of h

def topRunT (tb : String → Option Builtin) (p : Program) (w : World) (n₀ : Nat) (ann : Option Value) : Nat → SharedT → Thread → Option SharedT
  | 0, _, _ => none
  | n + 1, s, t => match through t with
    | true => some s
    | false => match stepOk n₀ ann t with
      | false => none
      | true => match stepT (denote tb) p w s t with
        | some (s', t') => topRunT tb p w n₀ ann n s' t'
        | none => none
theorem topRun_of {tb : String → Option Builtin} {p : Program} {w : World} {n₀ : Nat} {ann : Option Value} : ∀ {n : Nat} {s s' : SharedT} {t : Thread},
    topRunT tb p w n₀ ann n s t = some s' → topRun tb p w n₀ ann n s.abs t = some s'.abs
  | 0, _, _, _, h => by cases h
  | n + 1, s, s', t, h => by
    unfold topRunT at h
    unfold topRun
    cases he : through t with
    | true => rw [he] at h; cases h; rfl
    | false =>
      rw [he] at h
      cases hk : stepOk n₀ ann t with
      | false => rw [hk] at h; cases h
      | true =>
        rw [hk] at h
        cases hs : stepT (denote tb) p w s t with
        | none => rw [hs] at h; cases h
        | some r =>
          obtain ⟨s₂, t₂⟩ := r
          rw [hs] at h
          dsimp only
          rw [stepT_spec hs]
          exact topRun_of h

def treeOf : List Obj → Nat → BT → Option BT
  | [], _, t => some t
  | o :: l, n, t => match ((t.ins n o).get n).isSome with
    | true => treeOf l (n + 1) (t.ins n o)
    | false => none
theorem treeOf_spec {life : Life} : ∀ {l : List Obj} {n : Nat} {t t' : BT}, treeOf l n t = some t' →
    absHeap t' (n + l.length) life = ⟨(absHeap t n life).objs ++ l.toArray, life⟩
  | [], n, t, t', h => by cases h; simp [absHeap]
  | o :: l, n, t, t', h => by
    unfold treeOf at h
    cases hs : ((t.ins n o).get n).isSome with
    | false => rw [hs] at h; cases h
    | true =>
      rw [hs] at h
      have ih := treeOf_spec (life := life) h
      rw [absHeap_ins hs] at ih
      rw [List.length_cons, show n + (l.length + 1) = n + 1 + l.length by omega, ih]
      show Heap.mk _ _ = Heap.mk _ _
      congr 1
      show ((absHeap t n life).objs.push o) ++ l.toArray = _
      apply Array.toList_inj.mp
      simp

def openT (p : Program) (w : World) (N : Nat) : Option SharedT :=
  (impRunT treeTable (opening p) w N ⟨.nil, 0, {}, #[], {}, 1, (start (opening p)).1.os⟩ (start (opening p)).2).bind fun s =>
    (fenceModules? p s.abs).bind fun s₀ =>
      (treeOf s₀.heap.objs.toList 0 .nil).map fun t => ⟨t, s₀.heap.objs.toList.length, s₀.heap.life, s₀.gens, s₀.drawn, s₀.toks, s₀.os⟩

theorem openT_spec {p : Program} {w : World} {N : Nat} {s : SharedT} (h : openT p w N = some s) : fencedOpening treeTable p w N = some s.abs := by
  obtain ⟨s1, h1, h⟩ := Option.bind_eq_some_iff.mp h
  obtain ⟨s₀, h2, h⟩ := Option.bind_eq_some_iff.mp h
  obtain ⟨t, h3, rfl⟩ := Option.map_eq_some_iff.mp h
  unfold fencedOpening
  have e := impRun_of h1
  have e0 : (SharedT.abs ⟨.nil, 0, {}, #[], {}, 1, (start (opening p)).1.os⟩) = (start (opening p)).1 := rfl
  rw [e0] at e
  rw [e]
  show (fenceModules? p s1.abs) = _
  rw [h2]
  have q := treeOf_spec (life := s₀.heap.life) h3
  rw [Nat.zero_add] at q
  unfold SharedT.abs
  rw [q]
  obtain ⟨⟨objs, life⟩, gens, drawn, toks, os⟩ := s₀
  show some _ = some _
  congr 2
  show Heap.mk _ _ = Heap.mk _ _
  congr 1
  apply Array.toList_inj.mp
  simp [absHeap, BT.list]

def seenT {α : Type} (p q : Program) (loose : List Str) (Xt : Shared → Bool) (Yf : Shared → α) (g0 : Bool) (w : World) (N : Nat) (s : SharedT) :=
  match s.abs.heap.isNs mainGlobals && s.gens.size == 0 with
  | true => (topRunT treeTable p w s.n (s.abs.heap.nsMap mainGlobals "__annotations__") N s (topStub p)).map fun (s₁ : SharedT) =>
      (staticsOk (importedModules p.main.body) s.abs.heap s₁.abs.heap && namesBound p s₁.abs.heap && gensDone s₁.abs && laidKept s.abs.heap s₁.abs.heap,
        openSeen q loose (importedModules p.main.body) Xt g0 s₁.abs, Yf s₁.abs)
  | false => none

theorem left_of_T {α : Type} {p q : Program} {loose : List Str} {Xt : Shared → Bool} {Yf : Shared → α} {Ya : World → α} {N : Nat} {g0 : Bool} {w : World}
    (h : (openT p w N).bind (seenT p q loose Xt Yf g0 w N) = some (true, openGood q loose, Ya w)) :
    (openEnds treeTable p w N).map (fun s => (openSeen q loose (importedModules p.main.body) Xt g0 s, Yf s)) = some (openGood q loose, Ya w) := by
  obtain ⟨s, h1, h⟩ := Option.bind_eq_some_iff.mp h
  unfold seenT at h
  cases hc : s.abs.heap.isNs mainGlobals && s.gens.size == 0 with
  | false => rw [hc] at h; cases h
  | true =>
    rw [hc] at h
    obtain ⟨s₁, h2, h3⟩ := Option.map_eq_some_iff.mp h
    obtain ⟨e1, e2⟩ := Prod.mk.inj h3
    unfold openEnds
    rw [openT_spec h1]
    show (topFrom treeTable p w N s.abs).map _ = _
    unfold topFrom
    have hc' : (s.abs.heap.isNs mainGlobals && s.abs.gens.size == 0) = true := hc
    rw [hc']
    dsimp only
    have hn : s.abs.heap.objs.size = s.n := absHeap_size _ _ _
    rw [hn, topRun_of h2]
    dsimp only [Option.bind]
    rw [e1]
    exact congrArg some e2

theorem left_of_row {α : Type} {p q : Program} {loose : List Str} {Xt : Shared → Bool} {Yf : Shared → α} {Ya : World → α} {N : Nat} {g0 : Bool} (row : String)
    (h0 : ∀ w : World, (openT p (w.withFollow row false) N).bind (seenT p q loose Xt Yf g0 (w.withFollow row false) N) = some (true, openGood q loose, Ya (w.withFollow row false)))
    (h1 : ∀ w : World, (openT p (w.withFollow row true) N).bind (seenT p q loose Xt Yf g0 (w.withFollow row true) N) = some (true, openGood q loose, Ya (w.withFollow row true))) :
    LeftO p q loose Xt Yf Ya N g0 := fun w => by
  have e := World.withFollow_self w row
  cases hb : w.params.followText row <;> rw [hb] at e
  · have := left_of_T (h0 w); rw [e] at this; exact this
  · have := left_of_T (h1 w); rw [e] at this; exact this
end Mine

/-! HeadC -/
namespace Mine
open PySem PySem.W PySem.Calls PyProof.Rows
set_option Elab.async false
set_option maxRecDepth 100000
abbrev StepF := SharedT → Thread → Option (SharedT × Thread)
def impRunF (stp : StepF) (ae : Thread → Option (List Value)) : Nat → SharedT → Thread → Option SharedT
  | 0, _, _ => none
  | n + 1, s, t => match ae t with
    | some [] => some s
    | some (_ :: _) => none
    | none => match stp s t with
      | some (s', t') => impRunF stp ae n s' t'
      | none => none
def topRunF (stp : StepF) (sok : Thread → Bool) : Nat → SharedT → Thread → Option SharedT
  | 0, _, _ => none
  | n + 1, s, t => match through t with
    | true => some s
    | false => match sok t with
      | false => none
      | true => match stp s t with
        | some (s', t') => topRunF stp sok n s' t'
        | none => none
def openF (stp : StepF) (ae : Thread → Option (List Value)) (fen : Shared → Option Shared) (st : Shared × Thread) (N : Nat) : Option SharedT :=
  (impRunF stp ae N ⟨.nil, 0, {}, #[], {}, 1, st.1.os⟩ st.2).bind fun s =>
    (fen s.abs).bind fun s₀ =>
      (treeOf s₀.heap.objs.toList 0 .nil).map fun t => ⟨t, s₀.heap.objs.toList.length, s₀.heap.life, s₀.gens, s₀.drawn, s₀.toks, s₀.os⟩
noncomputable def fStep (p : Program) (w : World) : StepF := Fast.tw10156331382660048174 (Fast.tw11892475500146522536 Fast.tw14364793385576792824) p w
theorem fStep_eq (p : Program) (w : World) : stepT (denote treeTable) p w = fStep p w := by
  unfold fStep
  rw [← Fast.te10156331382660048174, ← Fast.te11892475500146522536, ← Fast.te14364793385576792824]
theorem impRun_F {p : Program} {w : World} : ∀ (n : Nat) (s : SharedT) (t : Thread), impRunT treeTable p w n s t = impRunF (fStep p w) Fast.tw3805553451399329143 n s t
  | 0, _, _ => rfl
  | n + 1, s, t => by
    unfold impRunT impRunF
    rw [fStep_eq, Fast.te3805553451399329143]
    cases Fast.tw3805553451399329143 t with
    | some l => cases l <;> rfl
    | none =>
      dsimp only
      cases fStep p w s t with
      | none => rfl
      | some r => exact impRun_F n _ _
theorem topRun_F {p : Program} {w : World} {n₀ : Nat} {ann : Option Value} : ∀ (n : Nat) (s : SharedT) (t : Thread), topRunT treeTable p w n₀ ann n s t = topRunF (fStep p w) (Fast.tw6613529449190102663 n₀ ann) n s t
  | 0, _, _ => rfl
  | n + 1, s, t => by
    unfold topRunT topRunF
    rw [fStep_eq, Fast.te6613529449190102663]
    cases through t with
    | true => rfl
    | false =>
      dsimp only
      cases Fast.tw6613529449190102663 n₀ ann t with
      | false => rfl
      | true =>
        dsimp only
        cases fStep p w s t with
        | none => rfl
        | some r => exact topRun_F n _ _
noncomputable def openG (p : Program) (w : World) (N : Nat) : Option SharedT := openF (fStep (opening p) w) Fast.tw3805553451399329143 (Fast.tw14289696077712309145 p) (Fast.tw1435165496053646825 (opening p)) N
theorem open_G (p : Program) (w : World) (N : Nat) : openT p w N = openG p w N := by
  unfold openT openG openF
  rw [Fast.te14289696077712309145, Fast.te1435165496053646825, impRun_F]
noncomputable def seenG {α : Type} (p q : Program) (loose : List Str) (Xt : Shared → Bool) (Yf : Shared → α) (g0 : Bool) (w : World) (N : Nat) (s : SharedT) :=
  match s.abs.heap.isNs mainGlobals && s.gens.size == 0 with
  | true => (topRunF (fStep p w) (Fast.tw6613529449190102663 s.n (Fast.tw8920871248978507458 s.abs.heap mainGlobals "__annotations__")) N s (topStub p)).map fun (s₁ : SharedT) =>
      (staticsOk (importedModules p.main.body) s.abs.heap s₁.abs.heap && namesBound p s₁.abs.heap && gensDone s₁.abs && laidKept s.abs.heap s₁.abs.heap,
        Fast.tw4187177175401517315 q loose (importedModules p.main.body) Xt g0 s₁.abs, Yf s₁.abs)
  | false => none
theorem seen_G {α : Type} (p q : Program) (loose : List Str) (Xt : Shared → Bool) (Yf : Shared → α) (g0 : Bool) (w : World) (N : Nat) (s : SharedT) : seenT p q loose Xt Yf g0 w N s = seenG p q loose Xt Yf g0 w N s := by
  unfold seenT seenG
  rw [Fast.te4187177175401517315, Fast.te8920871248978507458]
  cases s.abs.heap.isNs mainGlobals && s.gens.size == 0 with
  | true => dsimp only; rw [topRun_F]
  | false => rfl
theorem left_G {α : Type} {p q : Program} {loose : List Str} {Xt : Shared → Bool} {Yf : Shared → α} {Ya : World → α} {N : Nat} {g0 : Bool} (row : String)
    (h0 : ∀ w : World, (openG p (w.withFollow row false) N).bind (seenG p q loose Xt Yf g0 (w.withFollow row false) N) = some (true, openGood q loose, Ya (w.withFollow row false)))
    (h1 : ∀ w : World, (openG p (w.withFollow row true) N).bind (seenG p q loose Xt Yf g0 (w.withFollow row true) N) = some (true, openGood q loose, Ya (w.withFollow row true))) :
    LeftO p q loose Xt Yf Ya N g0 := by
  refine left_of_row row (fun w => ?_) (fun w => ?_)
  · rw [open_G, ← h0 w]; congr 1; funext s; exact seen_G ..
  · rw [open_G, ← h1 w]; congr 1; funext s; exact seen_G ..

/-- what is read off the heap behind the top -/
noncomputable def obsT (as : List Addr) (ns : List Str) (s : Shared) : List (Option Obj) × Bool × Bool × List (Option Value) :=
  (as.map s.heap.get?, s.heap.isNs cStatics, s.heap.isNs mainGlobals, Fast.tw8920871248978507458 s.heap cStatics sharingNotToldKey :: ns.map (Fast.tw8920871248978507458 s.heap mainGlobals))
def valT (K : Params → List (Addr × Obj)) (ns : List (Str × Option Value)) (w : World) : List (Option Obj) × Bool × Bool × List (Option Value) :=
  ((K w.params).map fun p => some p.2, true, true, none :: ns.map (·.2))
def saysT (K : Params → List (Addr × Obj)) (ns : List (Str × Option Value)) (w : World) (h : Heap) : Prop :=
  (∀ p ∈ K w.params, h.get? p.1 = some p.2) ∧ NoneBooked h ∧ ∃ mg, h.Ns mainGlobals mg ∧ ∀ e ∈ ns, mg e.1 = e.2
theorem map_eq_mem {α β : Type} {f g : α → β} : ∀ {l : List α}, l.map f = l.map g → ∀ a ∈ l, f a = g a
  | [], _, _, h => nomatch h
  | b :: l, e, a, h => by
    rw [List.map_cons, List.map_cons] at e
    obtain ⟨e1, e2⟩ := List.cons.inj e
    rcases List.mem_cons.mp h with rfl | q
    · exact e1
    · exact map_eq_mem e2 a q
theorem says_of {K : Params → List (Addr × Obj)} {ns : List (Str × Option Value)} {as : List Addr} (ha : ∀ P, as = (K P).map (·.1)) (w : World) (s : Shared) (e : obsT as (ns.map (·.1)) s = valT K ns w) : saysT K ns w s.heap := by
  unfold obsT valT at e
  rw [← Fast.te8920871248978507458] at e
  obtain ⟨e1, e2⟩ := Prod.mk.inj e
  obtain ⟨e2, e3⟩ := Prod.mk.inj e2
  obtain ⟨e3, e4⟩ := Prod.mk.inj e3
  obtain ⟨e4, e5⟩ := List.cons.inj e4
  refine ⟨?_, ⟨_, .of_isNs e2, e4⟩, _, .of_isNs e3, ?_⟩
  · rw [ha w.params, List.map_map] at e1
    exact map_eq_mem e1
  · rw [List.map_map] at e5
    exact map_eq_mem e5
theorem says_keeps {K : Params → List (Addr × Obj)} {ns : List (Str × Option Value)} (w : World) (h h' : Heap) (x : saysT K ns w h) (k : ∀ b o, h.get? b = some o → h'.get? b = some o) : saysT K ns w h' := by
  obtain ⟨a, ⟨mc, b, c⟩, mg, d, e⟩ := x
  exact ⟨fun p hp => k _ _ (a p hp), ⟨mc, b.keeps k, c⟩, mg, d.keeps k, e⟩
end Mine

/-! FinA -/
namespace Mine
open PySem PySem.W PySem.Calls PyProof.Rows
set_option Elab.async false
set_option maxRecDepth 100000
set_option maxHeartbeats 4000000

/-- a frame of one local argument: a token has been drawn behind it -/
theorem newEnv_one {M : Model} {A : Around} {E : Value → Shared → Prop} {s : Shared} {scope : Scope} {globals : Addr} {x : Str} {v : Value} {qual : Str} {func : Option Addr} {code : Value} {builtins : Addr} {Q : Env → Shared → Prop}
    (hk : scope.kind = .function) (hx : scope.names.lookup x = some .local)
    (hQ : ∀ env, env = newEnv scope s.heap.objs.size globals (cellsFrom (s.heap.objs.size + 1) scope.names []) qual func code none builtins →
      ∀ s', InCallC s env.locals (bindL env.kindOf [(x, v)] fun _ => none) env.cells (bindC env.kindOf [(x, v)] fun _ => none) s' → 0 < s'.toks → Q env s') :
    wpAny M A (newFunctionEnv scope globals [] [(x, v)] qual func code none builtins) Q E s := by
  simp only [newFunctionEnv, Option.isSome_none, Bool.false_eq_true, if_false]
  refine wpAny_bind (wpAny_alloc ?_)
  refine wpAny_bind (wpAny_layCells _ (fun name kind cells => by cases hkc : kind == NameKind.cell <;> simp [hkc]) _ _ _ _ ?_)
  have ok := cellsFrom_ok scope.names (s.heap.push { cls := .type "frame", data := .dict #[] }) (s.heap.objs.size + 1) [] ⟨fun _ _ hm => (nomatch hm), List.Pairwise.nil⟩ (by rw [Heap.size_push]; exact Nat.le_refl _)
  rw [Heap.size_push] at ok
  rw [show ({ s with heap := s.heap.push { cls := .type "frame", data := .dict #[] } } : Shared).heap.objs.size = s.heap.objs.size + 1 from Heap.size_push ..]
  have hns := (Heap.Ns.new s.heap (.type "frame")).keeps (pushCells_keeps scope.names (s.heap.push { cls := .type "frame", data := .dict #[] }))
  have hkp : Keep s.heap (pushCells (s.heap.push { cls := .type "frame", data := .dict #[] }) scope.names) := fun b o e => pushCells_keeps _ _ b o (Heap.get?_push_of_some _ e)
  refine wpAny_bind ?_
  rw [List.forIn_cons]
  refine wpAny_bind (wpAny_bind (wpAny_storeName_local (env := newEnv scope s.heap.objs.size globals (cellsFrom (s.heap.objs.size + 1) scope.names []) qual func code none builtins) hx hns (fun h' hn' hs' => ?_) (by show (scope.kind == .class || (scope.kind == .module && _)) = false; rw [hk]; rfl)))
  refine wpAny_pure ?_
  show wpAny M A (forIn [] _ _) _ E _
  rw [List.forIn_nil]
  refine wpAny_pure (wpAny_pure (hQ _ rfl _ ?_ (Nat.succ_pos _)))
  have hx' : (newEnv scope s.heap.objs.size globals (cellsFrom (s.heap.objs.size + 1) scope.names []) qual func code none builtins).kindOf x = some .local := hx
  unfold bindL bindC
  rw [if_pos hx', if_pos hx']
  refine ⟨⟨⟨h', _, rfl⟩, hn', fun b o e => ?_, Nat.le_refl _⟩, fun n c hc => ?_, ok.apart, fun n c hm => (ok.empty n c hm).2⟩
  · exact hs'.extBut b o (Nat.ne_of_lt (Heap.lt_size e)) (hkp b o e)
  · exact ((ok.empty n c (mem_of_lookup hc)).1).sameBut hs' (Nat.ne_of_gt (ok.empty n c (mem_of_lookup hc)).2)

/-- the same as FnOk, no token drawn yet -/
def FnOk0 (prog : Program) (w : World) (mg mb : Str → Option Value) (K : List (Addr × Obj)) (f : Addr) (p r : PV) (d : Nat) : Prop :=
  ∀ (A : Around) (v : Value) (s : Shared) (R : Result → Shared → Prop), A.handled = none → A.units + 4 * d + 20 < cLine → A.depth + d + 5 < recursionLimit → Grd w.params mg mb K s.heap →
    Rep w.params (vis s.heap []) p v → (∀ v h' t', Keep s.heap h' → Rep w.params (vis h' []) r v → R (.ok (.ret v)) { s with heap := h', toks := t' }) →
    codeAny (model prog w) A (.call (.ref f) ⟨[v], []⟩) R s
theorem FnOk0.of_body {prog : Program} {w : World} {mg mb : Str → Option Value} {K : List (Addr × Obj)} {f : Addr} {fd : FuncData} {body : List Stmt} {x : Str} {p r : PV} {d : Nat} (hd : IsDef K f fd) (hb : fd.body = .stmts body)
    (hbind : ∀ v, bindArgs fd ⟨[v], []⟩ = pure [(x, v)]) (hcn : ∃ ns : List Str, (∀ L, (cellsFrom L fd.scope.names []).map (·.1) = ns) ∧ ns.Nodup) (hx : fd.scope.names.lookup x = some .local)
    (h : ∀ A L, EX (calleeCx prog w mg mb K fd A L f d) [(x, p)] [] body (fun fl _ _ => fl = .ret r ∨ (fl = .next ∧ r = .none))) : FnOk0 prog w mg mb K f p r (d + 1) := by
  intro A v s R hh hu hdp G hr k
  obtain ⟨o, hK, ho, hclo, hgl, hbl, hkd, hgen, hco, c, oc, cvs, ct, hc1, hc2, hc3, hc4⟩ := hd
  refine codeAny_call_function (show A.depth < recursionLimit by omega) (G.k _ hK) ho hco hgen hb ⟨c, oc, cvs, ct, hc1, G.k _ hc2, hc3, hc4⟩ ?_
  rw [hbind v, hclo]
  refine wpAny_pure (newEnv_one hkd hx fun env he s₁ IC pt => ?_)
  subst he
  refine ⟨G.lim.keeps IC.toInCall.keep, codeAny_func (body := body) ?_⟩
  obtain ⟨h1, t1, rfl, kp⟩ := IC.done
  have ok : (calleeCx prog w mg mb K fd A s.heap.objs.size f d).Ok := ⟨hkd, hh, by show A.units + 3 + 4 * d + 20 < cLine; omega, by show A.depth + 1 + d + 5 < recursionLimit; omega, hgl, hbl⟩
  have e0 := get_size s.heap
  have hcfresh : ∀ p ∈ (callEnvC fd s.heap.objs.size f).cells, s.heap.get? p.2 = none ∧ s.heap.objs.size < p.2 := fun p hp => by
    have := IC.above p.1 p.2 hp
    refine ⟨?_, this⟩
    cases q : s.heap.get? p.2 with
    | none => rfl
    | some o => exact absurd (Heap.lt_size q) (Nat.not_lt.mpr (Nat.le_of_lt this))
  have hlk : LookLe (vis s.heap []) (vis h1 ((calleeCx prog w mg mb K fd A s.heap.objs.size f d).hid ⟨s.heap, []⟩ [])) := fun a ob e => by
    obtain ⟨q1, q2⟩ := vis_get e
    refine vis_of (kp _ _ q1) fun hm => ?_
    rcases List.mem_cons.mp (show a ∈ (callEnvC fd s.heap.objs.size f).locals :: _ from hm) with z | z
    · rw [show a = s.heap.objs.size from z, e0] at q1; cases q1
    · rcases List.mem_append.mp z with z | z
      · obtain ⟨p, hp, rfl⟩ := List.mem_map.mp z
        rw [(hcfresh p hp).1] at q1; cases q1
      · exact q2 z
  have hE : Est (calleeCx prog w mg mb K fd A s.heap.objs.size f d) ⟨s.heap, []⟩ [(x, p)] [] h1 := {
    g := G
    keep := kp
    liveX := fun a ha => by
      rcases List.mem_cons.mp ha with z | z
      · obtain ⟨o', es, ep, e, _⟩ := IC.toInCall.ns; exact ⟨o', z ▸ e⟩
      · rcases List.mem_append.mp z with z | z
        · obtain ⟨p, hp, rfl⟩ := List.mem_map.mp z
          obtain ⟨o', e, _⟩ := IC.cell _ _ (lookup_of_mem (by obtain ⟨ns, z1, z2⟩ := hcn; show ((cellsFrom (s.heap.objs.size + 1) fd.scope.names []).map (·.1)).Nodup; rw [z1]; exact z2) hp)
          exact ⟨o', e⟩
        · cases z
    newL := e0
    locC := fun p hp q => by have := (hcfresh p hp).2; rw [show p.2 = s.heap.objs.size from q] at this; omega
    cells := fun _ => ⟨fun p hp => (hcfresh p hp).1, IC.apart⟩
    vars := by
      refine ⟨_, _, IC.toInCall.ns, IC.cell, fun y pv e => ?_⟩
      rw [lookup_cons_of] at e
      by_cases q : y = x
      · subst q
        rw [if_pos rfl] at e
        cases e
        exact ⟨v, hr.get hlk, .inl ⟨hx, bindL_mem (binds := [(y, v)]) (by simp) List.mem_cons_self hx⟩⟩
      · rw [if_neg q] at e; cases e
    own := fun p hp => nomatch hp
    apart := List.nodup_nil }
  refine h A s.heap.objs.size ok ⟨s.heap, []⟩ { s with heap := h1, toks := t1 } _ _ hE pt fun fl fw V' M' h' t' e' rf hq => ?_
  rcases hq with rfl | ⟨rfl, rfl⟩
  · obtain ⟨v, rfl, rv⟩ := rf
    exact k v h' t' e'.keep (rv.get (vis_sub fun a ha => List.mem_cons_of_mem _ (List.mem_append_right _ ha)))
  · cases rf
    exact k .none h' t' e'.keep rfl

theorem ns_same {h : Heap} {a : Addr} {m m' : Str → Option Value} (x : h.Ns a m) (y : h.Ns a m') (n : Str) : m n = m' n := by
  obtain ⟨o, es, ep, h1, h2, _, h3⟩ := x
  obtain ⟨o', es', ep', g1, g2, _, g3⟩ := y
  rw [h1] at g1; cases g1
  rw [h2] at g2; cases g2
  rw [← h3, ← g3]
theorem ints_of {R : WRecords} : ∀ {xs : List WData}, WShape.hasItems R xs .int = true → ∃ ns : List Int, xs = ns.map WData.int
  | [], _ => ⟨[], rfl⟩
  | x :: xs, h => by
    obtain ⟨h1, h2⟩ := Bool.and_eq_true_iff.mp (show (WShape.has R x .int && WShape.hasItems R xs .int) = true from h)
    obtain ⟨i, rfl⟩ := hasW_int h1
    obtain ⟨ns, rfl⟩ := ints_of h2
    exact ⟨i :: ns, rfl⟩
theorem rep_ints {P : Params} {h : Heap} : ∀ {ns : List Int} {vs : List Value}, WellAll P h vs (ns.map WData.int) → RepL P (vis h []) (ns.map PV.int) vs
  | [], _, x => by cases x; rfl
  | n :: ns, _, x => by
    cases x with
    | cons a b =>
      cases a
      exact ⟨_, _, rfl, ⟨_, rfl⟩, rep_ints b⟩
theorem pre_len {l : OpenLaw} (hm : l.most = some 63) (hb : l.bound = none) {xs : List WData} (h : l.pre.holds [] { args := [.list xs] } = true) : xs.length ≤ 63 := by
  unfold OpenLaw.pre at h
  rw [hm, hb] at h
  by_cases q : xs.length ≤ 63
  · exact q
  · exfalso
    have e : less? (WData.int 63) (WData.int (xs.length : Int)) = some true := by
      show some (decide ((63 : Int) < (xs.length : Int))) = some true
      rw [decide_eq_true (by omega)]
    simp [WTm.holds, WTm.value, e] at h
theorem post_true (l : OpenLaw) (args : List WData) : l.row.claim.post args (.bool true) args = true := by
  simp [OpenLaw.row, RowW.claim, WShape.has, WShape.arms, WTm.holds, WTm.value, same]
/-- the law's call, from its contract -/
theorem call_of {l : OpenLaw} (hm : l.most = some 63) (hb : l.bound = none) {q : Program} {loose : List Str} {K : Params → List (Addr × Obj)} {names : List (Str × Option Value)} {d : DefRec} {kwd : List (Str × PySem.Expr)} {f : Addr} {n : Nat}
    (hn : (d.name, some (Value.ref f)) ∈ names) (hn1 : 4 + 4 * n + 20 < cLine) (hn2 : 1 + claimMargin + n + 5 < recursionLimit)
    (H : ∀ (w : World) (mg mb : Str → Option Value), (∀ e ∈ names, mg e.1 = e.2) → ∀ ns : List Int, ns.length ≤ 63 → FnOk0 l.prog w mg mb (K w.params) f (.list (ns.map .int)) (.bool true) n) :
    WalkO q loose (fun _ _ => True) (saysT K names) l.row.toRowW d kwd fun f vs => PySem.call f vs := by
  intro w s₀ s₁ mg mb G Y a o pm cd doc dV kV ho hd hcd hD hmg hg args vals as hpre hlay hrd hwl hlo
  obtain ⟨Y1, Y2, mg', Y3, Y4⟩ := Y
  have hY : ∀ e ∈ names, mg e.1 = e.2 := fun e he => (ns_same G.T.g Y3 e.1).trans (Y4 e he)
  have ha : a = f := by
    have := hY _ hn
    rw [show ((d.name, some (Value.ref f)) : Str × Option Value).1 = d.name from rfl, hmg] at this
    cases this; rfl
  subst ha
  obtain ⟨p1, p2⟩ := pre_splitW hpre
  obtain ⟨x, r, rfl, p3, p4⟩ := hasAllW_cons p1
  obtain rfl := hasAllW_nil p4
  obtain ⟨xs, rfl, p5⟩ := hasW_list p3
  have hlen := pre_len hm hb p2
  obtain ⟨ns, rfl⟩ := ints_of p5
  rw [List.length_map] at hlen
  cases hwl with
  | cons hw1 hw2 =>
    cases hw2
    cases hw1 with
    | list ho' hall =>
      refine wpAny_call (H w mg mb hY ns hlen callerA _ s₁ _ rfl hn1 hn2 ⟨G.T.g, G.T.b, G.T.nolimit, Y2, Y1, G.T.builtins⟩ ⟨_, _, _, rfl, vis_of ho' List.not_mem_nil, rep_ints hall⟩ fun v h' t' kp rv => ?_)
      cases (show v = .bool true from rv)
      exact GoodW.toG ⟨.inl ⟨_, _, [], rfl, fun _ => rfl, .bool true, post_true l _, fun _ => ⟨List.nodup_nil, fun a ha => absurd ha List.not_mem_nil⟩⟩, kp, rfl, hg⟩
end Mine

/-! F1l -/
namespace Mine
open PySem PySem.W PySem.Calls PyProof.Rows PySem.Challenge PySem.Builtin
set_option Elab.async false
set_option maxRecDepth 100000
set_option maxHeartbeats 4000000

/-- what the law's text finds about it -/
structure S01 (P : Params) (mg : Str → Option Value) (K : List (Addr × Obj)) where
  (fD fR fI fA fc fW fG fP fT fH fe fX fE an tn av tv Cl da ae : Addr)
  (mD cD mR cR mI cI mA cA mc cc mW cW mG cG mP cP mT cT mH cH me ce mX cX mE cE : Value)
  hD : IsDef K fD (fdOf "_law_drawn" (parts pw_re0170_01 64) .none mD cD)
  gD : mg "_law_drawn" = some (.ref fD)
  hR : IsDef K fR (fdOf "_law_rules" (parts pw_re0170_01 65) .none mR cR)
  gR : mg "_law_rules" = some (.ref fR)
  hI : IsDef K fI (fdOf "Headers.__init__" (methOf pw_re0170_01 62 0) (.ref da) mI cI)
  hda : ∃ n, (da, ({ cls := .type "tuple", data := .seq #[.none] n } : Obj)) ∈ K
  hA : IsDef K fA (fdOf "Headers.add_header" (methOf pw_re0170_01 62 16) .none mA cA)
  mmA : Meth K Cl "add_header" fA
  hc : IsDef K fc (fdOf "Headers._convert_string_type" (methOf pw_re0170_01 62 1) .none mc cc)
  mmc : Meth K Cl "_convert_string_type" fc
  hcls : HdrCls K Cl
  hset : HdrSet K Cl
  hmk : HdrMake K Cl fI
  gCl : mg "Headers" = some (.ref Cl)
  hdr : HdrG mg K an tn av tv
  hW : IsDef K fW (fdOf "_law_rows" (parts pw_re0170_01 67) .none mW cW)
  gW : mg "_law_rows" = some (.ref fW)
  hG : IsDef K fG (fdOf "Headers.get_all" (methOf pw_re0170_01 62 7) .none mG cG)
  mmG : Meth K Cl "get_all" fG
  hP : IsDef K fP (fdOf "_law_pieces" (parts pw_re0170_01 66) .none mP cP)
  gP : mg "_law_pieces" = some (.ref fP)
  hT : IsDef K fT (fdOf "ISTERMINAL" (parts pw_re0170_01 53) .none mT cT)
  gT : mg "ISTERMINAL" = some (.ref fT)
  ntT : Tok
  gNT : mg "NT_OFFSET" = some (.int 256 ntT)
  gae : mg "EXACT_TOKEN_TYPES" = some (.ref ae)
  gdict : GDict P K ae exactD
  hH : IsDef K fH (fdOf "_law_held" (parts pw_re0170_01 68) .none mH cH)
  gH : mg "_law_held" = some (.ref fH)
  he : IsDef K fe (fdOf "_ellipsis_match" (parts pw_re0170_01 56) .none me ce)
  ge : mg "_ellipsis_match" = some (.ref fe)
  emT : Tok
  gEM : mg "ELLIPSIS_MARKER" = some (.str "..." emT)
  hX : IsDef K fX (fdOf "_law_texts" (parts pw_re0170_01 69) .none mX cX)
  gX : mg "_law_texts" = some (.ref fX)
  hE : IsDef K fE (fdOf "_law_ends" (parts pw_re0170_01 70) .none mE cE)
  gE : mg "_law_ends" = some (.ref fE)
  bmin : mg "min" = none
  brange : mg "range" = none
  bsum : mg "sum" = none
  blist : mg "list" = none
  bzip : mg "zip" = none
  blen : mg "len" = none
  bord : mg "ord" = none


def Subs (V' V : Vars) : Prop := ∀ y p, V'.lookup y = some p → V.lookup y = some p
theorem Subs.nil {V : Vars} : Subs [] V := fun _ _ e => nomatch e
theorem Subs.cons {V V' : Vars} {x : Str} {p : PV} (h : V.lookup x = some p) (k : Subs V' V) : Subs ((x, p) :: V') V := fun y q e => by
  rw [lookup_cons_of] at e
  by_cases z : y = x
  · subst z; rw [if_pos rfl] at e; cases e; exact h
  · rw [if_neg z] at e; exact k y q e
abbrev lawB : List Stmt := (parts pw_re0170_01 71).2.2.1
abbrev lawCx (prog : Program) (w : World) (mg mb : Str → Option Value) (K : List (Addr × Obj)) (mod code : Value) (A : Around) (L f : Addr) : Cx := calleeCx prog w mg mb K (fdOf "law" (parts pw_re0170_01 71) .none mod code) A L f 5
abbrev varsA (ds : List Int) (d5 : Int) : Vars := [(Str.ofString "spelled", .dict (spPV (spOf d5))), (Str.ofString "row", .str (rowStr d5)), (Str.ofString "drawn", .list ((ds.map ruleOf).map pairPV)), (Str.ofString "draws", .list ((ds ++ [d5]).map .int))]
theorem law_a {prog : Program} {w : World} {mg mb : Str → Option Value} {K : List (Addr × Obj)} {f L : Addr} {A : Around} {mod code : Value} (S : S01 w.params mg K) {script : List Int} (hs : script.length ≤ 63) {Kc : Cont}
    (h : ∀ d0 d1 d2 d3 d4 d5, EX (lawCx prog w mg mb K mod code A L f) (varsA [d0, d1, d2, d3, d4] d5) [] (lawB.drop 9) Kc) :
    EX (lawCx prog w mg mb K mod code A L f) [(Str.ofString "script", .list (script.map .int))] [] lawB Kc := by
  have hcut : ((script.map PV.int).filter fun _ => true).map (fun p => match p with | .int x => PV.int (x.fmod 1000000) | p => p) = (cutOf script).map .int := by
    rw [List.filter_eq_self.mpr (fun _ _ => rfl), List.map_map, cutOf, List.map_map]; rfl
  refine EX.cons (EX1.assign (pv := .list ((cutOf script).map .int)) (.inr ⟨rfl, rfl, rfl⟩) (EV.of_eq (EV.comp (kp := fun _ => true) (f := (fun p => match p with | .int x => PV.int (x.fmod 1000000) | p => p)) (Vc := []) ?_ (It.list (EV.local rfl rfl)) ?_ ?_ (fun _ => rfl)) (congrArg PV.list hcut)) rfl ?_)
  · refine ⟨?_, ?_, rfl, ?_, rfl, ?_⟩
    · intro p hp hk
      simp only [List.mem_cons, List.not_mem_nil, or_false] at hp
      rcases hp with rfl | rfl <;> first | (cases hk; done) | rfl
    · intro y hy hk
      simp only [List.mem_cons, List.not_mem_nil, or_false] at hy
      rcases hy with rfl | rfl <;> cases hk
    · intro y hy hk
      simp only [List.mem_cons, List.not_mem_nil, or_false] at hy
      rcases hy with rfl | rfl <;> first | (cases hk; done) | rfl
    · intro y pv ee; cases ee
  · rw [List.length_map]; exact le_size (by omega)
  · intro Ca p hp
    obtain ⟨c, _, rfl⟩ := List.mem_map.mp hp
    refine ⟨CT.nil, fun _ => ?_⟩
    exact EV.bin (EV.local rfl rfl) (EV.bin EV.cint EV.cint (Bi.pow_int (by decide) (by decide) (by decide) (by decide) (by decide))) (Bi.mod_int (by decide))
  refine EX.cons (EX1.assign (pv := .list (told1.map .int)) (.inr ⟨rfl, rfl, rfl⟩) (SN.list rfl (EVs.cons EV.cint (EVs.cons EV.cint (EVs.cons EV.cint (EVs.cons EV.cint (EVs.cons EV.cint (EVs.cons EV.cint EVs.nil)))))) (by decide)).sv rfl ?_)
  have hdr : ((upFrom 0 6).filter fun _ => true).map (fun p => match p with | .int x => PV.int (drawAt script x.toNat) | p => p) = (drawsOf script).map .int := rfl
  refine EX.cons (EX1.assign (pv := .list ((drawsOf script).map .int)) (.inr ⟨rfl, rfl, rfl⟩) (EV.of_eq (EV.comp (kp := fun _ => true) (f := (fun p => match p with | .int x => PV.int (drawAt script x.toNat) | p => p)) (Vc := [(Str.ofString "told", .list (told1.map .int)), (Str.ofString "cut", .list ((cutOf script).map .int))]) ?_ (It.range1 (EV.builtin rfl S.brange (by decide +kernel) (by decide)) EV.cint rfl (by omega) (by omega)) ?_ ?_ (fun _ => rfl)) (congrArg PV.list hdr)) rfl ?_)
  · refine ⟨?_, ?_, rfl, ?_, rfl, ?_⟩
    · intro p hp hk
      simp only [List.mem_cons, List.not_mem_nil, or_false] at hp
      rcases hp with rfl | rfl | rfl | rfl | rfl <;> first | (cases hk; done) | rfl
    · intro y hy hk
      simp only [List.mem_cons, List.not_mem_nil, or_false] at hy
      rcases hy with rfl | rfl | rfl | rfl | rfl <;> cases hk
    · intro y hy hk
      simp only [List.mem_cons, List.not_mem_nil, or_false] at hy
      rcases hy with rfl | rfl | rfl | rfl | rfl <;> first | (cases hk; done) | rfl
    · intro y pv ee
      rw [lookup_cons_of] at ee
      by_cases q : y = Str.ofString "told"
      · subst q
        rw [if_pos rfl] at ee
        cases ee
        exact ⟨rfl, rfl, rfl, rfl⟩
      · rw [if_neg q, lookup_cons_of] at ee
        by_cases q : y = Str.ofString "cut"
        · subst q
          rw [if_pos rfl] at ee
          cases ee
          exact ⟨rfl, rfl, rfl, rfl⟩
        · rw [if_neg q] at ee; cases ee
  · rw [upFrom_len]; decide
  · intro Ca p hp
    obtain ⟨i, hi⟩ := List.mem_iff_getElem?.mp hp
    have hil : i < 6 := by
      have := (List.getElem?_eq_some_iff.mp hi).1
      rw [upFrom_len] at this; exact this
    have e := upFrom_get hi
    have e' : p = .int (i : Int) := by rw [e]; congr 1; omega
    subst e'
    refine ⟨CT.nil, fun _ => ?_⟩
    refine EV.of_eq (EV.bin (EV.sub (EV.cell rfl rfl) (EV.local rfl rfl) (Ix.list (p := .int (told1.getD i 0)) (by omega) ?_ (by omega))) (EV.callB (EV.builtin rfl S.bsum (by decide +kernel) (by decide)) rfl (EVs.cons (EV.of_eq (EV.sliceL (EV.cell rfl rfl) (PartOf.one (EV.local rfl rfl)) PartOf.nil (PartOf.one EV.cint) (by decide) ?_) (congrArg PV.list (pickL_map _ _ _ _ _))) EVs.nil) Bn.sum) Bi.add_int) ?_
    · rw [List.getElem?_map]
      have : (i : Int).toNat = i := by omega
      rw [this]
      match i, hil with
      | 0, _ => rfl
      | 1, _ => rfl
      | 2, _ => rfl
      | 3, _ => rfl
      | 4, _ => rfl
      | 5, _ => rfl
    · rw [List.length_map, cutOf, List.length_map]; exact le_size (by omega)
    · rfl
  obtain ⟨d0, d1, d2, d3, d4, d5, hds⟩ : ∃ d0 d1 d2 d3 d4 d5, drawsOf script = [d0, d1, d2, d3, d4, d5] := ⟨_, _, _, _, _, _, rfl⟩
  rw [hds]
  clear hcut hdr
  refine EX.cons (EX1.assign (.inl rfl) (EV.callF (EV.gref S.gD rfl) rfl (EVs.cons (EV.of_eq (b := .list ([d0, d1, d2, d3, d4].map .int)) (EV.sliceL (EV.cell rfl rfl) PartOf.nil (PartOf.one EV.cint) PartOf.nil (by decide) (le_size (by simp))) rfl) EVs.nil) S.hD (drawn_ok S.hD S.bmin (by simp)) (Nat.le_of_ble_eq_true rfl)) rfl ?_)
  have hrow : ((upFrom 0 5).filter fun _ => true).map (fun p => match p with | .int x => PV.str (bitStr d5 x.toNat) | p => p) = ((List.range 5).map (bitStr d5)).map .str := rfl
  refine EX.cons (EX1.assign (pv := .str (rowStr d5)) (.inl rfl) (EV.meth EV.cstr rfl (EVs.cons (EV.of_eq (EV.comp (kp := fun _ => true) (f := (fun p => match p with | .int x => PV.str (bitStr d5 x.toNat) | p => p)) (Vc := [(Str.ofString "draws", .list ([d0, d1, d2, d3, d4, d5].map .int))]) ?_ (It.range1 (EV.builtin rfl S.brange (by decide +kernel) (by decide)) EV.cint rfl (by omega) (by omega)) ?_ ?_ (fun _ => rfl)) (congrArg PV.list hrow)) EVs.nil) mth_join Ty.str (Bn.join (joinOk_small ?_ (by simp))) rfl rfl (by decide)) rfl ?_)
  · refine ⟨?_, ?_, rfl, ?_, rfl, ?_⟩
    · intro p hp hk
      simp only [List.mem_cons, List.not_mem_nil, or_false] at hp
      rcases hp with rfl | rfl | rfl | rfl <;> first | (cases hk; done) | rfl
    · intro y hy hk
      simp only [List.mem_cons, List.not_mem_nil, or_false] at hy
      rcases hy with rfl | rfl | rfl | rfl <;> cases hk
    · intro y hy hk
      simp only [List.mem_cons, List.not_mem_nil, or_false] at hy
      rcases hy with rfl | rfl | rfl | rfl <;> first | (cases hk; done) | rfl
    · intro y pv ee
      rw [lookup_cons_of] at ee
      by_cases q : y = Str.ofString "draws"
      · subst q
        rw [if_pos rfl] at ee
        cases ee
        exact ⟨rfl, rfl, rfl, rfl⟩
      · rw [if_neg q] at ee; cases ee
  · rw [upFrom_len]; decide
  · intro Ca p hp
    obtain ⟨i, hi⟩ := List.mem_iff_getElem?.mp hp
    have hil : i < 5 := by
      have := (List.getElem?_eq_some_iff.mp hi).1
      rw [upFrom_len] at this; exact this
    have e := upFrom_get hi
    have e' : p = .int (i : Int) := by rw [e]; congr 1; omega
    subst e'
    have hp2 : (2 : Int) ^ i ≠ 0 ∧ ((2 : Int) ^ i).natAbs < 1073741824 := by
      match i, hil with
      | 0, _ => decide
      | 1, _ => decide
      | 2, _ => decide
      | 3, _ => decide
      | 4, _ => decide
    have b1 := fmod_in (x := d5.fdiv (2 ^ i)) (m := 2) (by decide)
    refine ⟨CT.nil, fun _ => ?_⟩
    exact EV.sub EV.cstr (EV.bin (EV.bin (EV.sub (EV.cell rfl rfl) EV.cint (Ix.list (p := .int d5) (by decide) rfl (by decide))) (EV.bin EV.cint (EV.local rfl rfl) (Bi.pow2 (by omega))) (Bi.divC hp2.1 hp2.2)) EV.cint (Bi.mod_int (by decide))) (Ix.strOk b1.1 (by rw [len_01]; exact b1.2) (by rw [len_01]; decide))
  · intro t ht
    obtain ⟨i, _, rfl⟩ := List.mem_map.mp ht
    rw [bitStr, len_item']; decide
  have f1 := fmod_in (x := d5.fdiv 32) (m := 8) (by decide)
  have f2 := fmod_in (x := firstOf d5 + 1 + (d5.fdiv 256).fmod 7) (m := 8) (by decide)
  refine EX.cons (EX1.assign (pv := .int (firstOf d5)) (.inl rfl) (EV.bin (EV.bin (EV.sub (EV.cell rfl rfl) EV.cint (Ix.list (p := .int d5) (by decide) rfl (by decide))) EV.cint (Bi.divC (by decide) (by decide))) EV.cint (Bi.mod_int (by decide))) rfl ?_)
  refine EX.cons (EX1.assign (pv := .int (secondOf d5)) (.inl rfl) (EV.bin (EV.bin (EV.bin (EV.local rfl rfl) EV.cint Bi.add_int) (EV.bin (EV.bin (EV.sub (EV.cell rfl rfl) EV.cint (Ix.list (p := .int d5) (by decide) rfl (by decide))) EV.cint (Bi.divC (by decide) (by decide))) EV.cint (Bi.mod_int (by decide))) Bi.add_int) EV.cint (Bi.mod_int (by decide))) rfl ?_)
  refine EX.cons (EX1.assign (pv := .list (signsL.map .str)) (.inl rfl) (SN.list rfl (EVs.cons EV.cstr (EVs.cons EV.cstr (EVs.cons EV.cstr (EVs.cons EV.cstr (EVs.cons EV.cstr (EVs.cons EV.cstr (EVs.cons EV.cstr (EVs.cons EV.cstr EVs.nil)))))))) (by decide)).sv rfl ?_)
  refine EX.cons ?_
  refine EX1.assignDict ?_ ?_ ?_ ?_ ?_ ?_ ?_
  · exact .inr ⟨rfl, rfl, rfl⟩
  · rfl
  · rfl
  · simp
  · decide
  · rfl
  refine DT.cons (p := .str (signAt (firstOf d5))) EV.cstr (EV.sub (EV.local rfl rfl) (EV.local rfl rfl) (Ix.list f1.1 (signs_get f1.1 f1.2) (by have := f1.2; show firstOf d5 < _; unfold firstOf; omega))) ?_
  refine DT.cons (p := .str (signAt (secondOf d5))) EV.cstr (EV.sub (EV.local rfl rfl) (EV.local rfl rfl) (Ix.list f2.1 (signs_get f2.1 f2.2) (by have := f2.2; show secondOf d5 < _; unfold secondOf; omega))) ?_
  refine DT.nil ⟨(by decide : [Str.ofString "0", Str.ofString "1"].Nodup), ?_⟩
  refine XT.names (h d0 d1 d2 d3 d4 d5) ?_
  refine Subs.cons rfl (Subs.cons rfl (Subs.cons rfl (Subs.cons rfl Subs.nil)))
end Mine

/-! F1m -/
namespace Mine
open PySem PySem.W PySem.Calls PyProof.Rows PySem.Challenge PySem.Builtin
set_option Elab.async false
set_option maxRecDepth 100000
set_option maxHeartbeats 4000000

abbrev varsB (ds : List Int) (d5 : Int) : Vars := (Str.ofString "grammar", .dict (gPV (gramOf (sgOf d5) (rulesOf ds)))) :: varsA ds d5
theorem law_b {prog : Program} {w : World} {mg mb : Str → Option Value} {K : List (Addr × Obj)} {f L : Addr} {A : Around} {mod code : Value} (S : S01 w.params mg K) {ds : List Int} (hl : ds.length ≤ 5) {d5 : Int} {Kc : Cont}
    (h : EX (lawCx prog w mg mb K mod code A L f) (varsB ds d5) [] (lawB.drop 11) Kc) :
    EX (lawCx prog w mg mb K mod code A L f) (varsA ds d5) [] (lawB.drop 9) Kc := by
  have e1 : (PV.list ((ds ++ [d5]).map .int)) = .list (((esOf ds).map fun e => PV.int e.1) ++ [.int d5]) := by
    rw [List.map_append, List.map_map]; rfl
  have e2 : PV.list ((ds.map ruleOf).map pairPV) = .list ((esOf ds).map fun e => rowPV e.2) := by
    rw [List.map_map, List.map_map]; rfl
  have hes : ∀ e ∈ esOf ds, RowOk (spOf d5) e := fun e he => by
    obtain ⟨d, _, rfl⟩ := List.mem_map.mp he
    exact row_ok d5 d
  have e3 : PV.inst S.Cl (.list ((esOf ds).map fun e => rowPV (rowOf (spOf d5) e))) = .inst S.Cl (.list ((rowsOf d5 ds).map rowPV)) := by
    unfold rowsOf; rw [List.map_map (g := rowPV)]; rfl
  have hel : (esOf ds).length ≤ 900 := by rw [List.length_map]; omega
  refine EX.cons (EX1.assign (pv := .inst S.Cl (.list ((rowsOf d5 ds).map rowPV))) (.inl rfl) (EV.of_eq (EV.callF (EV.gref S.gR rfl) rfl (EVs.cons (EV.of_eq (EV.cell rfl rfl) e1) (EVs.cons (EV.of_eq (EV.local rfl rfl) e2) (EVs.cons (EV.cell rfl rfl) EVs.nil))) S.hR
    (rules_fn_ok S.hR S.hdr S.hI S.hda S.blist S.bzip S.hA S.mmA S.hc S.mmc S.hcls S.hset S.hmk S.gCl hes hel) (by decide : 3 ≤ 5)) e3) rfl ?_)
  have hrl : ∀ r ∈ rowsOf d5 ds, Str.tooLong (Txt.lower r.1).length = false := fun r hr => by
    obtain ⟨e, he, rfl⟩ := List.mem_map.mp hr
    obtain ⟨d, _, rfl⟩ := List.mem_map.mp he
    show Str.tooLong (Txt.lower (upIf (bit d 1152) (nameOf d))).length = false
    rw [name_low]
    exact too_small (by simp [Str.length])
  have hrz : (rowsOf d5 ds).length ≤ 1000 := by rw [List.length_map, List.length_map]; omega
  have hrow : ∀ (n : Str) (c : Nat), AskN n c → FnOk prog w mg mb K S.fW [.inst S.Cl (.list ((rowsOf d5 ds).map rowPV)), .str n] [] (rowsPV (gramOf (sgOf d5) (rulesOf ds) c)) 3 := fun n c a => by
    have hv : ∀ v ∈ ((ds.filter fun d => nameC d == c).map fun d => upIf (bit d 2304) (valOf (spOf d5) (bodyOf d))), ∃ d, v = upIf (bit d 2304) (ofL ((bodyL d).map (symW d5)).flatten) := fun v hv => by
      obtain ⟨d, _, rfl⟩ := List.mem_map.mp hv
      exact ⟨d, by rw [val_ofL]⟩
    have := rowsfn_ok (prog := prog) (w := w) (mb := mb) S.hW S.hdr S.hG S.mmG S.hc S.mmc S.hcls S.hP S.gP S.hT S.gT S.gNT S.gae S.gdict exact_vals S.blen S.bord (rows := rowsOf d5 ds) (n := n)
      (by rw [a.lo]; exact too_small (by simp [Str.length])) (by rw [a.lo]; rcases a.hc with rfl | rfl <;> exact ⟨by decide, by decide⟩) hrl hrz (rows_asked d5 a ds)
      (fun v hv' => by obtain ⟨d, rfl⟩ := hv v hv'; have := (tokd_of d5 d (bit d 2304)).len; omega)
      (fun v hv' => by obtain ⟨d, rfl⟩ := hv v hv'; exact (tokd_of d5 d (bit d 2304)).ok)
    rwa [rows_gram d5 c ds] at this
  refine EX.cons ?_
  refine EX1.assignDict ?_ ?_ ?_ ?_ ?_ ?_ ?_
  · exact .inl rfl
  · rfl
  · rfl
  · simp
  · decide
  · rfl
  refine DT.cons (p := rowsPV (gramOf (sgOf d5) (rulesOf ds) 112)) EV.cstr (EV.callF (EV.gref S.gW rfl) rfl (EVs.cons (EV.local rfl rfl) (EVs.cons EV.cstr EVs.nil)) S.hW (hrow _ 112 ask_P) (by decide : 3 ≤ 5)) ?_
  refine DT.cons (p := rowsPV (gramOf (sgOf d5) (rulesOf ds) 113)) EV.cstr (EV.callF (EV.gref S.gW rfl) rfl (EVs.cons (EV.local rfl rfl) (EVs.cons EV.cstr EVs.nil)) S.hW (hrow _ 113 ask_Q) (by decide : 3 ≤ 5)) ?_
  refine DT.nil ⟨(by decide : [Str.ofString "p", Str.ofString "q"].Nodup), ?_⟩
  refine XT.names h ?_
  exact Subs.cons rfl (Subs.cons rfl (Subs.cons rfl (Subs.cons rfl (Subs.cons rfl Subs.nil))))
end Mine

/-! F1n -/
namespace Mine
open PySem PySem.W PySem.Calls PyProof.Rows PySem.Challenge PySem.Builtin
set_option Elab.async false
set_option maxRecDepth 100000
set_option maxHeartbeats 4000000

theorem encL_inj : ∀ {ss ts : List (List Nat)}, (∀ s ∈ ss, Sg s) → (∀ s ∈ ts, Sg s) → encL ss = encL ts → ss = ts
  | [], [], _, _, _ => rfl
  | [], t :: ts, _, _, h => by rw [encL_cons] at h; cases h
  | s :: ss, [], _, _, h => by rw [encL_cons] at h; cases h
  | s :: ss, t :: ts, hs, ht, h => by
    rw [encL_cons, encL_cons] at h
    have h' : s ++ 32 :: encL ss = t ++ 32 :: encL ts := by
      have := (List.cons.inj h).2
      simpa using this
    have e : s = t := prefix_sign (hs s List.mem_cons_self).sp (ht t List.mem_cons_self).sp ⟨[], by rw [List.append_nil]; exact h'⟩
    subst e
    have := (List.cons.inj (List.append_cancel_left h')).2
    rw [encL_inj (fun x hx => hs x (List.mem_cons_of_mem _ hx)) (fun x hx => ht x (List.mem_cons_of_mem _ hx)) this]
/-- which texts are kept -/
noncomputable def keepT (T : List (List (List Nat))) (p : List (List Nat) → Bool) : PV → Bool := fun v => @decide (∃ t ∈ T, v = .str (encS t) ∧ p t = true) (Classical.propDecidable _)
theorem keepT_of {T : List (List (List Nat))} {p : List (List Nat) → Bool} (hT : ∀ t ∈ T, ∀ s ∈ t, Sg s) {t : List (List Nat)} (ht : t ∈ T) : keepT T p (.str (encS t)) = p t := by
  unfold keepT
  cases h : p t with
  | true =>
    have q : ∃ t' ∈ T, PV.str (encS t) = PV.str (encS t') ∧ p t' = true := ⟨t, ht, rfl, h⟩
    exact @decide_eq_true _ (Classical.propDecidable _) q
  | false =>
    refine @decide_eq_false _ (Classical.propDecidable _) ?_
    rintro ⟨u, hu, e, hp⟩
    have e2 : encL t = encL u := by
      have := congrArg (fun v => match v with | PV.str s => s.cps.toList | _ => []) e
      simpa using this
    rw [encL_inj (hT t ht) (hT u hu) e2, hp] at h
    cases h
theorem keepT_filter {T : List (List (List Nat))} {p : List (List Nat) → Bool} (hT : ∀ t ∈ T, ∀ s ∈ t, Sg s) : ∀ (l : List (List (List Nat))), (∀ t ∈ l, t ∈ T) → (textsPV l).filter (keepT T p) = textsPV (l.filter p)
  | [], _ => rfl
  | t :: l, h => by
    have ih := keepT_filter (p := p) hT l fun x hx => h x (List.mem_cons_of_mem _ hx)
    show List.filter (keepT T p) (PV.str (encS t) :: textsPV l) = _
    rw [List.filter_cons, List.filter_cons, keepT_of hT (h t List.mem_cons_self), ih]
    cases p t <;> rfl
/-- a sign between spaces -/
def padPV (d5 : Int) : PV → PV
  | .str s => .str (ofL (tokL (sgOf d5 (s.cps.toList.headD 0))))
  | p => p
theorem pad_all (d5 : Int) (l : List Nat) : (((l.map fun c => PV.str (ch c)).filter fun _ => true).map (padPV d5)) = (l.map fun c => ofL (tokL (sgOf d5 c))).map .str := by
  rw [List.filter_eq_self.mpr (fun _ _ => rfl), List.map_map, List.map_map]; rfl
theorem join_pad (d5 : Int) (l : List Nat) : Txt.join "" (l.map fun c => ofL (tokL (sgOf d5 c))) = encS (l.map (sgOf d5)) := by
  apply Str.ext'
  apply Array.toList_inj.mp
  rw [join_none, List.map_map]
  show (l.map fun c => tokL (sgOf d5 c)).flatten = encL (l.map (sgOf d5))
  unfold encL
  rw [List.flatMap_def, List.map_map]; rfl
theorem sp_look (d5 : Int) {c : Nat} (hc : c = 48 ∨ c = 49) : (spPV (spOf d5)).lookup (ch c) = some (.str (ofL (sgOf d5 c))) := by
  have h1 := first_in d5
  have h2 := second_in d5
  have e0 : Str.ofString "0" = ch 48 := by decide +kernel
  have e1 : Str.ofString "1" = ch 49 := by decide +kernel
  show List.lookup (ch c) [(Str.ofString "0", PV.str (signAt (firstOf d5))), (Str.ofString "1", PV.str (signAt (secondOf d5)))] = _
  rw [e0, e1, lookup_cons_of, lookup_cons_of, List.lookup_nil]
  rcases hc with rfl | rfl
  · rw [if_pos rfl, sign_ofL h1.1 h1.2]; rfl
  · rw [if_neg (by rw [one_inj]; decide), if_pos rfl, sign_ofL h2.1 h2.2]; rfl
theorem pad_one (d5 : Int) (c : Nat) : (Str.ofString " " ++ ofL (sgOf d5 c)) ++ Str.ofString " " = ofL (tokL (sgOf d5 c)) := by
  have e : Str.ofString " " = ofL [32] := by decide +kernel
  rw [e, ← ofL_app, ← ofL_app]; rfl
theorem pad_len (d5 : Int) (c : Nat) : Str.length (ofL (tokL (sgOf d5 c))) ≤ 4 := by
  have : Str.length (ofL (tokL (sgOf d5 c))) = (tokL (sgOf d5 c)).length := by simp [Str.length]
  rw [this, tok_len]; have := sg_len d5 c; omega
theorem sp_len (d5 : Int) (c : Nat) : Str.length (Str.ofString " ") + Str.length (ofL (sgOf d5 c)) ≤ sizeLine ∧ Str.length (Str.ofString " " ++ ofL (sgOf d5 c)) + Str.length (Str.ofString " ") ≤ sizeLine := by
  have e : Str.ofString " " = ofL [32] := by decide +kernel
  have h := sg_len d5 c
  have h1 : Str.length (ofL [32]) = 1 := rfl
  have h2 : Str.length (ofL (sgOf d5 c)) = (sgOf d5 c).length := by simp [Str.length]
  have h3 : Str.length (ofL [32] ++ ofL (sgOf d5 c)) = 1 + (sgOf d5 c).length := by rw [← ofL_app]; simp [Str.length]; omega
  rw [e, h1, h2, h3]
  exact ⟨le_size (by omega), le_size (by omega)⟩
abbrev textsC (ds : List Int) (d5 : Int) : List (List (List Nat)) := (texts2 (sgOf d5) (rulesOf ds)).filter fun t => t.isSublist ((rowL d5).map (sgOf d5))
abbrev varsC (ds : List Int) (d5 : Int) : Vars := [(Str.ofString "ends", .list (natPV (endE (rowL d5) (rulesOf ds)).1)), (Str.ofString "texts", .list (textsPV (textsC ds d5))), (Str.ofString "spelled", .dict (spPV (spOf d5))), (Str.ofString "row", .str (ofL (rowL d5)))]

theorem law_c {prog : Program} {w : World} {mg mb : Str → Option Value} {K : List (Addr × Obj)} {f L : Addr} {A : Around} {mod code : Value} (S : S01 w.params mg K) {ds : List Int} (hl : ds.length ≤ 5) {d5 : Int} {Kc : Cont}
    (h : EX (lawCx prog w mg mb K mod code A L f) (varsC ds d5) [] (lawB.drop 14) Kc) :
    EX (lawCx prog w mg mb K mod code A L f) (varsB ds d5) [] (lawB.drop 11) Kc := by
  refine XT.names (V' := [(Str.ofString "grammar", .dict (gPV (gramOf (sgOf d5) (rulesOf ds)))), (Str.ofString "spelled", .dict (spPV (spOf d5))), (Str.ofString "row", .str (ofL (rowL d5))), (Str.ofString "drawn", .list ((ds.map ruleOf).map pairPV))]) ?_ (Subs.cons rfl (Subs.cons rfl (Subs.cons (by rw [← row_ofL]; rfl) (Subs.cons rfl Subs.nil))))
  have hjoin : JoinOk "" ((rowL d5).map fun c => ofL (tokL (sgOf d5 c))) = true := joinOk_small (fun t ht => by
    obtain ⟨c, _, rfl⟩ := List.mem_map.mp ht
    have := pad_len d5 c; omega) (by rw [List.length_map, rowL_len]; decide)
  refine EX.cons (EX1.assign (pv := .str (encS ((rowL d5).map (sgOf d5)))) (.inr ⟨rfl, rfl, rfl⟩) (EV.of_eq (EV.meth EV.cstr rfl (EVs.cons (EV.of_eq (EV.comp (kp := fun _ => true) (f := padPV d5) (Vc := [(Str.ofString "spelled", .dict (spPV (spOf d5)))]) ?_ (It.str (EV.local rfl rfl)) ?_ ?_ (fun _ => rfl)) (congrArg PV.list (pad_all d5 (rowL d5)))) EVs.nil) mth_join Ty.str (Bn.join hjoin) rfl rfl (by decide)) (congrArg PV.str (join_pad d5 (rowL d5)))) rfl ?_)
  · refine ⟨?_, ?_, rfl, ?_, rfl, ?_⟩
    · intro p hp hk
      simp only [List.mem_cons, List.not_mem_nil, or_false] at hp
      rcases hp with rfl | rfl | rfl <;> first | (cases hk; done) | rfl
    · intro y hy hk
      simp only [List.mem_cons, List.not_mem_nil, or_false] at hy
      rcases hy with rfl | rfl | rfl <;> cases hk
    · intro y hy hk
      simp only [List.mem_cons, List.not_mem_nil, or_false] at hy
      rcases hy with rfl | rfl | rfl <;> first | (cases hk; done) | rfl
    · intro y pv ee
      rw [lookup_cons_of] at ee
      by_cases q : y = Str.ofString "spelled"
      · subst q
        rw [if_pos rfl] at ee
        cases ee
        exact ⟨rfl, rfl, rfl, rfl⟩
      · rw [if_neg q] at ee; cases ee
  · rw [List.length_map]; show (rowL d5).length ≤ _; rw [rowL_len]; decide
  · intro Ca p hp
    obtain ⟨c, hc, rfl⟩ := List.mem_map.mp hp
    have hc' : c ∈ rowL d5 := hc
    refine ⟨CT.nil, fun _ => ?_⟩
    exact EV.of_eq (EV.bin (EV.bin EV.cstr (EV.sub (EV.cell rfl rfl) (EV.local rfl rfl) (Ix.dict (sp_look d5 (rowL_in d5 c hc')))) (Bi.add_str (sp_len d5 c).1)) EV.cstr (Bi.add_str (sp_len d5 c).2)) (congrArg PV.str (pad_one d5 c))
  -- texts
  have b1 := bnd1 (d5 := d5) hl
  have b2 := bnd2 (d5 := d5) hl
  have hsgT : ∀ t ∈ texts2 (sgOf d5) (rulesOf ds), (∀ s ∈ t, Sg s) ∧ (encL t).length ≤ 16 := fun t ht => by
    obtain ⟨t1, t2⟩ := b2.2.t t ht
    obtain ⟨e1, e2⟩ := enc_bound t2
    exact ⟨e1, by omega⟩
  have hsgW : (∀ s ∈ (rowL d5).map (sgOf d5), Sg s) ∧ (encL ((rowL d5).map (sgOf d5))).length ≤ 20 := by
    obtain ⟨e1, e2⟩ := enc_bound (d5 := d5) (t := (rowL d5).map (sgOf d5)) fun s hs => by
      obtain ⟨c, _, rfl⟩ := List.mem_map.mp hs
      exact ⟨c, rfl⟩
    rw [List.length_map, rowL_len] at e2
    exact ⟨e1, e2⟩
  have hgr := gram_ok d5 ds
  have T1 : FnOk prog w mg mb K S.fX [.dict (gPV (gramOf (sgOf d5) (rulesOf ds))), .str ⟨#[113]⟩, .str (ofL [112, 113])] [] (.list (textsPV (texts1 (sgOf d5) (rulesOf ds)))) 3 :=
    texts_ok S.hX S.gX S.hH S.gH S.he S.ge S.gEM S.blen hgr (.inr rfl) (rec := fun _ => []) (d := 2) (by decide) (fun e he ha => (above2 he ha).elim) (by decide) b1.1
  have T2 : FnOk prog w mg mb K S.fX [.dict (gPV (gramOf (sgOf d5) (rulesOf ds))), .str ⟨#[112]⟩, .str (ofL [112])] [] (.list (textsPV (texts2 (sgOf d5) (rulesOf ds)))) 4 :=
    texts_ok S.hX S.gX S.hH S.gH S.he S.ge S.gEM S.blen hgr (.inl rfl) (rec := fun _ => texts1 (sgOf d5) (rulesOf ds)) (d := 3) (by decide) (fun e he ha => by obtain rfl := above1 he ha; exact T1) (by decide) b2.1
  have ep : Str.ofString "p" = (⟨#[112]⟩ : Str) := by decide +kernel
  have hlist : ((textsPV (texts2 (sgOf d5) (rulesOf ds))).filter (keepT (texts2 (sgOf d5) (rulesOf ds)) fun t => t.isSublist ((rowL d5).map (sgOf d5)))).map (fun p => p) = textsPV (textsC ds d5) := by
    rw [List.map_id', keepT_filter (fun t ht => (hsgT t ht).1) _ fun _ ht => ht]
  refine EX.cons ?_
  refine EX1.assignComp (items := textsPV (texts2 (sgOf d5) (rulesOf ds))) (kp := keepT (texts2 (sgOf d5) (rulesOf ds)) fun t => t.isSublist ((rowL d5).map (sgOf d5))) (f := fun p => p) (Vc := [(Str.ofString "whole", .str (encS ((rowL d5).map (sgOf d5))))]) ?_ ?_ ?_ ?_ ?_ ?_ ?_ ?_
  · exact .inl rfl
  · rfl
  · refine ⟨?_, ?_, rfl, ?_, rfl, ?_⟩
    · intro p hp hk
      simp only [List.mem_cons, List.not_mem_nil, or_false] at hp
      rcases hp with rfl | rfl | rfl | rfl <;> first | (cases hk; done) | rfl
    · intro y hy hk
      simp only [List.mem_cons, List.not_mem_nil, or_false] at hy
      rcases hy with rfl | rfl | rfl | rfl <;> cases hk
    · intro y hy hk
      simp only [List.mem_cons, List.not_mem_nil, or_false] at hy
      rcases hy with rfl | rfl | rfl | rfl <;> first | (cases hk; done) | rfl
    · intro y pv ee
      rw [lookup_cons_of] at ee
      by_cases q : y = Str.ofString "whole"
      · subst q
        rw [if_pos rfl] at ee
        cases ee
        exact ⟨rfl, rfl, rfl, rfl⟩
      · rw [if_neg q] at ee; cases ee
  · exact It.list (EV.callF (EV.gref S.gX rfl) rfl (EVs.cons (EV.local rfl rfl) (EVs.cons (EV.of_eq EV.cstr (congrArg PV.str ep)) (EVs.cons (EV.of_eq EV.cstr (congrArg PV.str ep)) EVs.nil))) S.hX T2 (by decide : 4 ≤ 5))
  · rw [List.length_map]; exact le_size (by have := b2.2.n; omega)
  · intro Ca p hp
    obtain ⟨t, ht, rfl⟩ := List.mem_map.mp hp
    rw [keepT_of (fun t ht => (hsgT t ht).1) ht]
    refine ⟨CT.one ?_, fun _ => EV.local rfl rfl⟩
    refine ET.of_eq (ET.val (EV.callF (EV.gref S.gH rfl) rfl (EVs.cons (EV.of_eq (SN.list rfl (EVs.cons (EV.local rfl rfl) EVs.nil) (by decide)).sv (show PV.list [PV.str (encS t)] = PV.list (textsPV [t]) from rfl)) (EVs.cons (EV.cell rfl rfl) EVs.nil)) S.hH
      (held_ok S.hH S.he S.ge S.gEM S.blen (T := [t]) (fun ss hss => by rw [List.mem_singleton.mp hss]; exact ⟨(hsgT t ht).1, by have := (hsgT t ht).2; omega⟩) hsgW.1 (by have := hsgW.2; omega)) (by decide : 2 ≤ 5)) Tr.bool rfl) (by simp)
  · exact fun _ => rfl
  rw [hlist]
  -- ends
  have hE := ends_ok (prog := prog) (w := w) (mb := mb) S.hE S.blen S.brange (rules := rulesOf ds) (rules_names ds) (row := ofL (rowL d5)) (far := (rowL d5).length + 1) (by simp [Str.length]) (by rw [rowL_len]; decide)
  refine EX.cons (EX1.assign (.inl rfl) (EV.callF (EV.gref S.gE rfl) rfl (EVs.cons (EV.of_eq (EV.local rfl rfl) (congrArg PV.list (rules_eq ds))) (EVs.cons (EV.local rfl rfl) EVs.nil)) S.hE hE (by decide : 1 ≤ 5)) rfl ?_)
  refine XT.names h ?_
  exact Subs.cons rfl (Subs.cons rfl (Subs.cons rfl (Subs.cons rfl Subs.nil)))
end Mine

/-! F1o -/
namespace Mine
open PySem PySem.W PySem.Calls PyProof.Rows PySem.Challenge PySem.Builtin
set_option Elab.async false
set_option maxRecDepth 100000
set_option maxHeartbeats 4000000

theorem slice_sl (l : List Nat) {s e : Nat} (h : s ≤ e) : Txt.slice (ofL l) (some (s : Int)) (some (e : Int)) = ofL (sl l s e) := by
  have := cut_ofL l s (e - s)
  unfold cut at this
  rw [show (s : Int) + ((e - s : Nat) : Int) = (e : Int) by omega] at this
  exact this
theorem law_d {prog : Program} {w : World} {mg mb : Str → Option Value} {K : List (Addr × Obj)} {f L : Addr} {A : Around} {mod code : Value} (S : S01 w.params mg K) {ds : List Int} (hl : ds.length ≤ 5) {d5 : Int} {Kc : Cont}
    (hK : ∀ V M, Kc (.ret (.bool true)) V M) :
    EX (lawCx prog w mg mb K mod code A L f) (varsC ds d5) [] (lawB.drop 14) Kc := by
  have b2 := bnd2 (d5 := d5) hl
  have hsgT : ∀ t ∈ textsC ds d5, (∀ s ∈ t, Sg s) ∧ (encL t).length ≤ 100000 := fun t ht => by
    obtain ⟨t1, t2⟩ := b2.2.t t (List.mem_filter.mp ht).1
    obtain ⟨e1, e2⟩ := enc_bound t2
    exact ⟨e1, by omega⟩
  let I : Vars → Owns → Prop := fun V' M' => M' = [] ∧ vat V' "ends" = some (.list (natPV (endE (rowL d5) (rulesOf ds)).1)) ∧ vat V' "texts" = some (.list (textsPV (textsC ds d5))) ∧ vat V' "spelled" = some (.dict (spPV (spOf d5))) ∧ vat V' "row" = some (.str (ofL (rowL d5)))
  refine EX.cons (EX1.for (fun _ => I) rfl (It.range1 (EV.builtin rfl S.brange (by decide +kernel) (by decide)) EV.cint rfl (by decide) (by decide)) ⟨rfl, rfl, rfl, rfl, rfl⟩ ?_ ?_ (fun _ => rfl))
  · rintro done p rest V' M' hit ⟨rfl, i1, i2, i3, i4⟩
    obtain ⟨s, hs6, rfl⟩ : ∃ s : Nat, s < 6 ∧ p = .int (s : Int) := by
      have hm : p ∈ upFrom 0 (Int.toNat 6) := by rw [hit]; simp
      obtain ⟨i, hi⟩ := List.mem_iff_getElem?.mp hm
      have hil := (List.getElem?_eq_some_iff.mp hi).1
      rw [upFrom_len] at hil
      exact ⟨i, hil, by rw [upFrom_get hi]; congr 1; omega⟩
    refine EX.cons (EX1.for (fun _ V2 M2 => I V2 M2 ∧ vat V2 "start" = some (.int (s : Int))) rfl (It.range2 (EV.builtin rfl S.brange (by decide +kernel) (by decide)) (EV.local rfl rfl) EV.cint rfl (by omega) (by omega) (by decide)) ⟨⟨rfl, lk i1, lk i2, lk i3, lk i4⟩, rfl⟩ ?_ ?_ (fun _ => rfl))
    · rintro done2 p2 rest2 V2 M2 hit2 ⟨⟨rfl, j1, j2, j3, j4⟩, j5⟩
      obtain ⟨e, hse, he6, rfl⟩ : ∃ e : Nat, s ≤ e ∧ e < 6 ∧ p2 = .int (e : Int) := by
        have hm : p2 ∈ upFrom (s : Int) (6 - (s : Int)).toNat := by rw [hit2]; simp
        obtain ⟨i, hi⟩ := List.mem_iff_getElem?.mp hm
        have hil := (List.getElem?_eq_some_iff.mp hi).1
        rw [upFrom_len] at hil
        exact ⟨s + i, by omega, by omega, by rw [upFrom_get hi]; congr 1⟩
      have hsl : ∀ c ∈ sl (rowL d5) s e, c = 48 ∨ c = 49 := fun c hc => rowL_in d5 c (((List.take_sublist _ _).trans (List.drop_sublist _ _)).subset hc)
      have hsll : (sl (rowL d5) s e).length ≤ 5 := by
        have := ((List.take_sublist (e - s) ((rowL d5).drop s)).trans (List.drop_sublist _ _)).length_le
        rw [rowL_len] at this; exact this
      have hjoin : JoinOk "" ((sl (rowL d5) s e).map fun c => ofL (tokL (sgOf d5 c))) = true := joinOk_small (fun t ht => by
        obtain ⟨c, _, rfl⟩ := List.mem_map.mp ht
        have := pad_len d5 c; omega) (by rw [List.length_map]; omega)
      refine EX.cons (EX1.assign (pv := .str (encS ((sl (rowL d5) s e).map (sgOf d5)))) (.inl rfl) (EV.of_eq (EV.meth EV.cstr rfl (EVs.cons (EV.of_eq (EV.comp (kp := fun _ => true) (f := padPV d5) (Vc := [(Str.ofString "spelled", .dict (spPV (spOf d5)))]) ?_ (It.str (EV.of_eq (EV.sliceS (EV.local rfl (lk j4)) (PartOf.one (EV.local rfl (lk j5))) (PartOf.one (EV.local rfl rfl)) ?_) (congrArg PV.str (slice_sl (rowL d5) hse)))) ?_ ?_ (fun _ => rfl)) (congrArg PV.list (pad_all d5 (sl (rowL d5) s e)))) EVs.nil) mth_join Ty.str (Bn.join hjoin) rfl rfl (by decide)) (congrArg PV.str (join_pad d5 (sl (rowL d5) s e)))) rfl ?_)
      · refine ⟨?_, ?_, rfl, ?_, rfl, ?_⟩
        · intro p hp hk
          simp only [List.mem_cons, List.not_mem_nil, or_false] at hp
          rcases hp with rfl | rfl | rfl <;> first | (cases hk; done) | rfl
        · intro y hy hk
          simp only [List.mem_cons, List.not_mem_nil, or_false] at hy
          rcases hy with rfl | rfl | rfl <;> cases hk
        · intro y hy hk
          simp only [List.mem_cons, List.not_mem_nil, or_false] at hy
          rcases hy with rfl | rfl | rfl <;> first | (cases hk; done) | rfl
        · intro y pv ee
          rw [lookup_cons_of] at ee
          by_cases q : y = Str.ofString "spelled"
          · subst q
            rw [if_pos rfl] at ee
            cases ee
            exact ⟨lk j3, rfl, rfl, rfl⟩
          · rw [if_neg q] at ee; cases ee
      · have : Str.length (ofL (rowL d5)) = (rowL d5).length := by simp [Str.length]
        rw [this, rowL_len]; decide
      · rw [List.length_map]; show (sl (rowL d5) s e).length ≤ _; exact le_size (by omega)
      · intro Ca p hp
        obtain ⟨c, hc, rfl⟩ := List.mem_map.mp hp
        have hc' : c ∈ sl (rowL d5) s e := hc
        refine ⟨CT.nil, fun _ => ?_⟩
        exact EV.of_eq (EV.bin (EV.bin EV.cstr (EV.sub (EV.cell rfl rfl) (EV.local rfl rfl) (Ix.dict (sp_look d5 (hsl c hc')))) (Bi.add_str (sp_len d5 c).1)) EV.cstr (Bi.add_str (sp_len d5 c).2)) (congrArg PV.str (pad_one d5 c))
      have hsgS : (∀ x ∈ (sl (rowL d5) s e).map (sgOf d5), Sg x) ∧ (encL ((sl (rowL d5) s e).map (sgOf d5))).length ≤ 100000 := by
        obtain ⟨e1, e2⟩ := enc_bound (d5 := d5) (t := (sl (rowL d5) s e).map (sgOf d5)) fun x hx => by
          obtain ⟨c, _, rfl⟩ := List.mem_map.mp hx
          exact ⟨c, rfl⟩
        rw [List.length_map] at e2
        exact ⟨e1, by omega⟩
      have hh := higman (sg := sgOf d5) (rules := rulesOf ds) (l := rowL d5) (sg_ne d5) (rules_names ds) (rules_syms ds) (rowL_in d5) hse (by rw [rowL_len]; omega)
      refine EX.cons (EX1.ite (b := false) (ET.of_eq (ET.cmp (EV.callF (EV.gref S.gH rfl) rfl (EVs.cons (EV.local rfl (lk (lk j2))) (EVs.cons (EV.local rfl rfl) EVs.nil)) S.hH (held_ok S.hH S.he S.ge S.gEM S.blen hsgT hsgS.1 hsgS.2) (by decide : 2 ≤ 5))
        (EV.cmp (EV.sub (EV.local rfl (lk (lk j1))) (EV.local rfl (lk (lk j5))) (Ix.list (by omega) (natPV_get (by rw [ends_len, rowL_len]; omega)) (by omega))) (EV.local rfl rfl) Bi.le_int rfl) Bi.ne_bool rfl) ?_) (fun hb => nomatch hb) fun _ => EX.nil (EX.nil ⟨⟨rfl, lk (lk j1), lk (lk j2), lk (lk j3), lk (lk j4)⟩, lk (lk j5)⟩))
      rw [hh]
      have : decide ((((endE (rowL d5) (rulesOf ds)).1.getD s 0 : Nat) : Int) ≤ (e : Int)) = decide ((endE (rowL d5) (rulesOf ds)).1.getD s 0 ≤ e) := by
        rw [decide_eq_decide]; omega
      rw [this]; simp
    · rintro V2 M2 ⟨hi, _⟩
      exact EX.nil hi
  · rintro V' M' _
    exact EX.cons (EX1.ret EV.cbool (hK _ _))
theorem law_ok {prog : Program} {w : World} {mg mb : Str → Option Value} {K : List (Addr × Obj)} {f : Addr} {mod code : Value} (hd : IsDef K f (fdOf "law" (parts pw_re0170_01 71) .none mod code)) (S : S01 w.params mg K) {script : List Int} (hs : script.length ≤ 63) :
    FnOk0 prog w mg mb K f (.list (script.map .int)) (.bool true) 6 := by
  refine FnOk0.of_body (x := "script") hd rfl (fun v => rfl) ⟨["whole", "spelled", "draws", "told", "cut"], fun _ => rfl, by decide⟩ rfl ?_
  intro A L
  refine law_a S hs fun d0 d1 d2 d3 d4 d5 => law_b S (by simp) (law_c S (by simp) (law_d S (by simp) fun V M => .inl rfl))
end Mine

/-! HeadK -/
namespace Mine
open PySem PySem.W PySem.Calls PyProof.Rows PySem.Challenge
set_option Elab.async false
set_option maxRecDepth 100000
set_option maxHeartbeats 0
def entsP (P : Params) (l : List (Str × Tok × Value)) : List DictEntry := l.map fun e => ⟨PyData.keyHash P e.1, .str e.1 e.2.1, e.2.2⟩
def exactE (P : Params) (l : List (Tok × Tok)) : List DictEntry := (exactL.zip l).map fun e => ⟨PyData.keyHash P (ofL e.1.1), .str (ofL e.1.1) e.2.1, .int e.1.2 e.2.2⟩
def K01 (P : Params) : List (Addr × Obj) := [
  (39, { cls := .type "dict", data := .dict (exactE P [(389, 385), (391, 333), (393, 325), (395, 357), (397, 315), (399, 359), (401, 291), (403, 293), (405, 309), (407, 347), (409, 369), (411, 353), (413, 305), (415, 349), (417, 301), (419, 307), (421, 351), (423, 379), (425, 323), (427, 381), (429, 311), (431, 371), (433, 373), (435, 355), (437, 299), (439, 383), (441, 303), (443, 317), (445, 343), (447, 365), (449, 335), (451, 321), (453, 331), (455, 319), (457, 337), (458, 345), (459, 367), (460, 375), (461, 377), (462, 295), (463, 297), (464, 341), (465, 363), (466, 327), (467, 313), (468, 361), (469, 329), (470, 339)]).toArray 48 }),
  (47, { cls := .type "code", data := .fields #[.str "ISTERMINAL" 486, .str "ISTERMINAL" 487, .str "/claim/cut.py" 488, .int 56 0, .int 1 0, .int 0 0, .int 0 0, .int 3 0, .ref 42, .bool true, .int 276 0, .ref 43, .none, .ref 44, .ref 45, .ref 46, .int 490 0, .int 56 0, .str "/claim/cut.py" 491] }),
  (48, { cls := .type "function", data := .func (fdOf "ISTERMINAL" (parts pw_re0170_01 53) (.none) (.str "cpy313.token" 289) (.ref 47)) }),
  (54, { cls := .type "code", data := .fields #[.str "_ellipsis_match" 497, .str "_ellipsis_match" 498, .str "/claim/cut.py" 499, .int 60 0, .int 2 0, .int 0 0, .int 0 0, .int 3 0, .ref 49, .bool true, .int 276 0, .ref 50, .none, .ref 51, .ref 52, .ref 53, .int 506 0, .int 60 0, .str "/claim/cut.py" 507] }),
  (55, { cls := .type "function", data := .func (fdOf "_ellipsis_match" (parts pw_re0170_01 56) (.none) (.str "cpy313.doctest" 493) (.ref 54)) }),
  (64, { cls := .type "tuple", data := .seq #[.int 14 0, .int 10 0, .int 4 0, .int 1 0, .int 1 0, .int 22 0, .int 0 0, .int 31 0, .int 16 0, .int 127 0, .int 0 0, .int 13 0, .int 7 0, .int 22 0, .int 0 0, .int 31 0, .int 16 0, .int 127 0, .int 0 0, .int 1 0] 0 }),
  (65, { cls := .type "re.Pattern", data := .fields #[.str "[\\x00-\\x1F\\x7F]" 546, .int 32 569, .int 0 0, .none, .none, .ref 64, .int 0 0] }),
  (69, { cls := .type "tuple", data := .seq #[.int 14 0, .int 14 0, .int 4 0, .int 1 0, .int 1 0, .int 9 0, .int 4294966783 0, .int 0 0, .int 0 0, .int 2147483648 0, .int 0 0, .int 0 0, .int 0 0, .int 0 0, .int 0 0, .int 13 0, .int 11 0, .int 9 0, .int 4294966783 0, .int 0 0, .int 0 0, .int 2147483648 0, .int 0 0, .int 0 0, .int 0 0, .int 0 0, .int 0 0, .int 1 0] 0 }),
  (70, { cls := .type "re.Pattern", data := .fields #[.str "[\\x00-\\x08\\x0A-\\x1F\\x7F]" 572, .int 32 603, .int 0 0, .none, .none, .ref 69, .int 0 0] }),
  (86, { cls := .type "tuple", data := .seq #[.none] 0 }),
  (92, { cls := .type "code", data := .fields #[.str "__init__" 627, .str "Headers.__init__" 628, .str "/claim/cut.py" 629, .int 103 0, .int 2 0, .int 0 0, .int 0 0, .int 3 0, .ref 87, .bool true, .int 276 0, .ref 88, .none, .ref 89, .ref 90, .ref 91, .int 634 0, .int 103 0, .str "/claim/cut.py" 635] }),
  (93, { cls := .type "function", data := .func (fdOf "Headers.__init__" (methOf pw_re0170_01 62 0) (.ref 86) (.str "cpy313.wsgiref.headers" 509) (.ref 92)) }),
  (99, { cls := .type "code", data := .fields #[.str "_convert_string_type" 637, .str "Headers._convert_string_type" 638, .str "/claim/cut.py" 639, .int 113 0, .int 2 0, .int 0 0, .int 1 0, .int 3 0, .ref 94, .bool true, .int 276 0, .ref 95, .none, .ref 96, .ref 97, .ref 98, .int 644 0, .int 113 0, .str "/claim/cut.py" 645] }),
  (100, { cls := .type "function", data := .func (fdOf "Headers._convert_string_type" (methOf pw_re0170_01 62 1) (.none) (.str "cpy313.wsgiref.headers" 509) (.ref 99)) }),
  (137, { cls := .type "code", data := .fields #[.str "get_all" 685, .str "Headers.get_all" 686, .str "/claim/cut.py" 687, .int 138 0, .int 2 0, .int 0 0, .int 0 0, .int 3 0, .ref 134, .bool true, .int 276 0, .ref 135, .none, .none, .none, .ref 136, .int 688 0, .int 138 0, .str "/claim/cut.py" 689] }),
  (138, { cls := .type "function", data := .func (fdOf "Headers.get_all" (methOf pw_re0170_01 62 7) (.none) (.str "cpy313.wsgiref.headers" 509) (.ref 137)) }),
  (195, { cls := .type "code", data := .fields #[.str "add_header" 750, .str "Headers.add_header" 751, .str "/claim/cut.py" 752, .int 170 0, .int 3 0, .int 0 0, .int 0 0, .int 11 0, .ref 190, .bool true, .int 276 0, .ref 191, .none, .ref 192, .ref 193, .ref 194, .int 760 0, .int 170 0, .str "/claim/cut.py" 761] }),
  (196, { cls := .type "function", data := .func (fdOf "Headers.add_header" (methOf pw_re0170_01 62 16) (.none) (.str "cpy313.wsgiref.headers" 509) (.ref 195)) }),
  (198, { cls := .type "dict", data := .dict (entsP P [("__module__", 622, .str "cpy313.wsgiref.headers" 509), ("__firstlineno__", 626, .int 101 625), ("__init__", 636, .ref 93), ("_convert_string_type", 646, .ref 100), ("__len__", 653, .ref 107), ("__setitem__", 662, .ref 114), ("__delitem__", 668, .ref 119), ("__getitem__", 676, .ref 126), ("__contains__", 684, .ref 133), ("get_all", 690, .ref 138), ("get", 701, .ref 146), ("keys", 707, .ref 151), ("values", 713, .ref 156), ("items", 720, .ref 163), ("__repr__", 727, .ref 170), ("__str__", 733, .ref 175), ("__bytes__", 740, .ref 182), ("setdefault", 749, .ref 189), ("add_header", 762, .ref 196), ("__static_attributes__", 764, .ref 197), ("__dict__", 766, .ref 200), ("__weakref__", 768, .ref 201), ("__doc__", 769, .none)]).toArray 4 }),
  (199, { cls := .type "type", data := .cls { name := "Headers", bases := [.type "object"], mro := [.ref 199, .type "object"], ns := 198, qualname := "Headers", hasDict := true }, slots := #[none, none, some (.str "Headers" 615), some (.str "Headers" 623), some (.builtin "object.__new__"), some (.bool true)] }),
  (209, { cls := .type "code", data := .fields #[.str "_law_drawn" 774, .str "_law_drawn" 775, .str "/claim/cut.py" 776, .int 184 0, .int 1 0, .int 0 0, .int 0 0, .int 3 0, .ref 204, .bool true, .int 276 0, .ref 205, .none, .ref 206, .ref 207, .ref 208, .int 782 0, .int 184 0, .str "/claim/cut.py" 783] }),
  (210, { cls := .type "function", data := .func (fdOf "_law_drawn" (parts pw_re0170_01 64) (.none) (.str "law_re0170_01" 772) (.ref 209)) }),
  (214, { cls := .type "code", data := .fields #[.str "_law_rules" 785, .str "_law_rules" 786, .str "/claim/cut.py" 787, .int 191 0, .int 3 0, .int 0 0, .int 0 0, .int 3 0, .ref 211, .bool true, .int 276 0, .ref 212, .none, .none, .none, .ref 213, .int 788 0, .int 191 0, .str "/claim/cut.py" 789] }),
  (215, { cls := .type "function", data := .func (fdOf "_law_rules" (parts pw_re0170_01 65) (.none) (.str "law_re0170_01" 772) (.ref 214)) }),
  (221, { cls := .type "code", data := .fields #[.str "_law_pieces" 791, .str "_law_pieces" 792, .str "/claim/cut.py" 793, .int 200 0, .int 1 0, .int 0 0, .int 0 0, .int 3 0, .ref 216, .bool true, .int 276 0, .ref 217, .none, .ref 218, .ref 219, .ref 220, .int 798 0, .int 200 0, .str "/claim/cut.py" 799] }),
  (222, { cls := .type "function", data := .func (fdOf "_law_pieces" (parts pw_re0170_01 66) (.none) (.str "law_re0170_01" 772) (.ref 221)) }),
  (228, { cls := .type "code", data := .fields #[.str "_law_rows" 801, .str "_law_rows" 802, .str "/claim/cut.py" 803, .int 210 0, .int 2 0, .int 0 0, .int 0 0, .int 3 0, .ref 223, .bool true, .int 276 0, .ref 224, .none, .ref 225, .ref 226, .ref 227, .int 810 0, .int 210 0, .str "/claim/cut.py" 811] }),
  (229, { cls := .type "function", data := .func (fdOf "_law_rows" (parts pw_re0170_01 67) (.none) (.str "law_re0170_01" 772) (.ref 228)) }),
  (235, { cls := .type "code", data := .fields #[.str "_law_held" 813, .str "_law_held" 814, .str "/claim/cut.py" 815, .int 221 0, .int 2 0, .int 0 0, .int 0 0, .int 3 0, .ref 230, .bool true, .int 276 0, .ref 231, .none, .ref 232, .ref 233, .ref 234, .int 819 0, .int 221 0, .str "/claim/cut.py" 820] }),
  (236, { cls := .type "function", data := .func (fdOf "_law_held" (parts pw_re0170_01 68) (.none) (.str "law_re0170_01" 772) (.ref 235)) }),
  (240, { cls := .type "code", data := .fields #[.str "_law_texts" 822, .str "_law_texts" 823, .str "/claim/cut.py" 824, .int 226 0, .int 3 0, .int 0 0, .int 0 0, .int 3 0, .ref 237, .bool true, .int 276 0, .ref 238, .none, .none, .none, .ref 239, .int 825 0, .int 226 0, .str "/claim/cut.py" 826] }),
  (241, { cls := .type "function", data := .func (fdOf "_law_texts" (parts pw_re0170_01 69) (.none) (.str "law_re0170_01" 772) (.ref 240)) }),
  (247, { cls := .type "code", data := .fields #[.str "_law_ends" 828, .str "_law_ends" 829, .str "/claim/cut.py" 830, .int 242 0, .int 2 0, .int 0 0, .int 0 0, .int 3 0, .ref 242, .bool true, .int 276 0, .ref 243, .none, .ref 244, .ref 245, .ref 246, .int 841 0, .int 242 0, .str "/claim/cut.py" 842] }),
  (248, { cls := .type "function", data := .func (fdOf "_law_ends" (parts pw_re0170_01 70) (.none) (.str "law_re0170_01" 772) (.ref 247)) }),
  (252, { cls := .type "code", data := .fields #[.str "law" 844, .str "law" 845, .str "/claim/cut.py" 846, .int 262 0, .int 1 0, .int 0 0, .int 0 0, .int 3 0, .ref 249, .bool true, .int 276 0, .ref 250, .none, .none, .none, .ref 251, .int 847 0, .int 262 0, .str "/claim/cut.py" 848] }),
  (253, { cls := .type "function", data := .func (fdOf "law" (parts pw_re0170_01 71) (.none) (.str "law_re0170_01" 772) (.ref 252)) })]
def as01 : List Addr := [39, 47, 48, 54, 55, 64, 65, 69, 70, 86, 92, 93, 99, 100, 137, 138, 195, 196, 198, 199, 209, 210, 214, 215, 221, 222, 228, 229, 235, 236, 240, 241, 247, 248, 252, 253]
def names01 : List (Str × Option Value) := [
  ("_law_drawn", some (.ref 210)),
  ("_law_rules", some (.ref 215)),
  ("_law_pieces", some (.ref 222)),
  ("_law_rows", some (.ref 229)),
  ("_law_held", some (.ref 236)),
  ("_law_texts", some (.ref 241)),
  ("_law_ends", some (.ref 248)),
  ("law", some (.ref 253)),
  ("Headers", some (.ref 199)),
  ("ISTERMINAL", some (.ref 48)),
  ("NT_OFFSET", some (.int 256 387)),
  ("EXACT_TOKEN_TYPES", some (.ref 39)),
  ("_ellipsis_match", some (.ref 55)),
  ("ELLIPSIS_MARKER", some (.str "..." 495)),
  ("_name_disallowed_re", some (.ref 65)),
  ("_value_disallowed_re", some (.ref 70)),
  ("min", none),
  ("range", none),
  ("sum", none),
  ("list", none),
  ("zip", none),
  ("len", none),
  ("ord", none),
  ("type", none),
  ("str", none)]
def loose01 : List Str := (["_sre", "_wall", "LPAR", "RPAR", "LSQB", "RSQB", "COLON", "COMMA", "SEMI", "PLUS", "MINUS", "STAR", "SLASH", "VBAR", "AMPER", "LESS", "GREATER", "EQUAL", "DOT", "PERCENT", "LBRACE", "RBRACE", "EQEQUAL", "NOTEQUAL", "LESSEQUAL", "GREATEREQUAL", "TILDE", "CIRCUMFLEX", "LEFTSHIFT", "RIGHTSHIFT", "DOUBLESTAR", "PLUSEQUAL", "MINEQUAL", "STAREQUAL", "SLASHEQUAL", "PERCENTEQUAL", "AMPEREQUAL", "VBAREQUAL", "CIRCUMFLEXEQUAL", "LEFTSHIFTEQUAL", "RIGHTSHIFTEQUAL", "DOUBLESTAREQUAL", "DOUBLESLASH", "DOUBLESLASHEQUAL", "AT", "ATEQUAL", "RARROW", "ELLIPSIS", "COLONEQUAL", "EXCLAMATION", "NT_OFFSET", "EXACT_TOKEN_TYPES", "ISTERMINAL", "ELLIPSIS_MARKER", "_ellipsis_match", "tspecials", "_name_disallowed_re", "_value_disallowed_re", "_formatparam", "Headers", "_law_drawn", "_law_rules", "_law_pieces", "_law_rows", "_law_held", "_law_texts", "_law_ends"] : List String).map Str.ofString
def q01 : Program := view pw_re0170_01 [71]

end Mine

/-! Fin1 -/
namespace Mine
open PySem PySem.W PySem.Calls PyProof.Rows PySem.Challenge
set_option Elab.async false
set_option maxRecDepth 100000
set_option maxHeartbeats 4000000

theorem isDef_at {K : List (Addr × Obj)} {f c : Addr} {fd : FuncData} {vs : Array Value} {t : Tok} (i j : Nat) (h1 : K[i]? = some (f, { cls := .type "function", data := .func fd })) (h2 : K[j]? = some (c, { cls := .type "code", data := .fields vs }))
    (hc : fd.code = .ref c) (hv : vs[1]? = some (.str fd.qualname t)) (h3 : fd.closure = []) (h4 : fd.globals = mainGlobals) (h5 : fd.builtins = builtinsNs) (h6 : fd.scope.kind = .function) (h7 : fd.scope.isGenerator = false) (h8 : fd.scope.isCoroutine = false) : IsDef K f fd :=
  ⟨_, List.mem_of_getElem? h1, rfl, h3, h4, h5, h6, h7, h8, c, _, vs, t, hc, List.mem_of_getElem? h2, rfl, hv⟩
theorem repD_exact {P : Params} {L : Look} : ∀ (l : List (List Nat × Int)) (ts : List (Tok × Tok)), l.length = ts.length →
    RepD P L (l.map fun e => (ofL e.1, PV.int e.2)) ((l.zip ts).map fun e => ⟨PyData.keyHash P (ofL e.1.1), .str (ofL e.1.1) e.2.1, .int e.1.2 e.2.2⟩)
  | [], [], _ => rfl
  | a :: l, b :: ts, h => ⟨_, _, _, rfl, ⟨_, rfl⟩, repD_exact l ts (by simpa using h)⟩
  | [], _ :: _, h => nomatch h
  | _ :: _, [], h => nomatch h
theorem gdict_of {P : Params} {K : List (Addr × Obj)} {a : Addr} {ts : List (Tok × Tok)} {n : Nat} (ha : (a == sysModules) = false) (h : (a, ({ cls := .type "dict", data := .dict (exactE P ts).toArray n } : Obj)) ∈ K) (hl : exactL.length = ts.length) : GDict P K a exactD :=
  ⟨ha, exactE P ts, n, fun _ _ _ G => G.k _ h, fun _ => repD_exact _ _ hl⟩

def s01 (P : Params) (mg : Str → Option Value) (h : ∀ e ∈ names01, mg e.1 = e.2) : S01 P mg (K01 P) where
  fD := 210
  fR := 215
  fI := 93
  fA := 196
  fc := 100
  fW := 229
  fG := 138
  fP := 222
  fT := 48
  fH := 236
  fe := 55
  fX := 241
  fE := 248
  an := 65
  tn := 64
  av := 70
  tv := 69
  Cl := 199
  da := 86
  ae := 39
  mD := _
  cD := _
  mR := _
  cR := _
  mI := _
  cI := _
  mA := _
  cA := _
  mc := _
  cc := _
  mW := _
  cW := _
  mG := _
  cG := _
  mP := _
  cP := _
  mT := _
  cT := _
  mH := _
  cH := _
  me := _
  ce := _
  mX := _
  cX := _
  mE := _
  cE := _
  hD := isDef_at 21 20 rfl rfl rfl rfl rfl rfl rfl rfl rfl rfl
  gD := h _ (List.mem_of_getElem? (i := 0) rfl)
  hR := isDef_at 23 22 rfl rfl rfl rfl rfl rfl rfl rfl rfl rfl
  gR := h _ (List.mem_of_getElem? (i := 1) rfl)
  hI := isDef_at 11 10 rfl rfl rfl rfl rfl rfl rfl rfl rfl rfl
  hda := ⟨0, List.mem_of_getElem? (i := 9) rfl⟩
  hA := isDef_at 17 16 rfl rfl rfl rfl rfl rfl rfl rfl rfl rfl
  mmA := ⟨by kernel_rfl, by kernel_rfl, by kernel_rfl, by kernel_rfl, by decide⟩
  hc := isDef_at 13 12 rfl rfl rfl rfl rfl rfl rfl rfl rfl rfl
  mmc := ⟨by kernel_rfl, by kernel_rfl, by kernel_rfl, by kernel_rfl, by decide⟩
  hcls := ⟨by kernel_rfl, by kernel_rfl, ⟨_, rfl, rfl⟩⟩
  hset := ⟨by kernel_rfl, by kernel_rfl, by kernel_rfl, by kernel_rfl⟩
  hmk := ⟨by kernel_rfl, by kernel_rfl, by kernel_rfl, by kernel_rfl⟩
  gCl := h _ (List.mem_of_getElem? (i := 8) rfl)
  hdr := ⟨h _ (List.mem_of_getElem? (i := 23) rfl), h _ (List.mem_of_getElem? (i := 24) rfl), h _ (List.mem_of_getElem? (i := 14) rfl), h _ (List.mem_of_getElem? (i := 15) rfl),
    ⟨⟨_, _, _, _, _, List.mem_of_getElem? (i := 6) rfl⟩, ⟨_, _, List.mem_of_getElem? (i := 5) rfl, by decide +kernel⟩⟩, ⟨⟨_, _, _, _, _, List.mem_of_getElem? (i := 8) rfl⟩, ⟨_, _, List.mem_of_getElem? (i := 7) rfl, by decide +kernel⟩⟩⟩
  hW := isDef_at 27 26 rfl rfl rfl rfl rfl rfl rfl rfl rfl rfl
  gW := h _ (List.mem_of_getElem? (i := 3) rfl)
  hG := isDef_at 15 14 rfl rfl rfl rfl rfl rfl rfl rfl rfl rfl
  mmG := ⟨by kernel_rfl, by kernel_rfl, by kernel_rfl, by kernel_rfl, by decide⟩
  hP := isDef_at 25 24 rfl rfl rfl rfl rfl rfl rfl rfl rfl rfl
  gP := h _ (List.mem_of_getElem? (i := 2) rfl)
  hT := isDef_at 2 1 rfl rfl rfl rfl rfl rfl rfl rfl rfl rfl
  gT := h _ (List.mem_of_getElem? (i := 9) rfl)
  ntT := 387
  gNT := h _ (List.mem_of_getElem? (i := 10) rfl)
  gae := h _ (List.mem_of_getElem? (i := 11) rfl)
  gdict := gdict_of rfl (List.mem_of_getElem? (i := 0) rfl) rfl
  hH := isDef_at 29 28 rfl rfl rfl rfl rfl rfl rfl rfl rfl rfl
  gH := h _ (List.mem_of_getElem? (i := 4) rfl)
  he := isDef_at 4 3 rfl rfl rfl rfl rfl rfl rfl rfl rfl rfl
  ge := h _ (List.mem_of_getElem? (i := 12) rfl)
  emT := 495
  gEM := h _ (List.mem_of_getElem? (i := 13) rfl)
  hX := isDef_at 31 30 rfl rfl rfl rfl rfl rfl rfl rfl rfl rfl
  gX := h _ (List.mem_of_getElem? (i := 5) rfl)
  hE := isDef_at 33 32 rfl rfl rfl rfl rfl rfl rfl rfl rfl rfl
  gE := h _ (List.mem_of_getElem? (i := 6) rfl)
  bmin := h _ (List.mem_of_getElem? (i := 16) rfl)
  brange := h _ (List.mem_of_getElem? (i := 17) rfl)
  bsum := h _ (List.mem_of_getElem? (i := 18) rfl)
  blist := h _ (List.mem_of_getElem? (i := 19) rfl)
  bzip := h _ (List.mem_of_getElem? (i := 20) rfl)
  blen := h _ (List.mem_of_getElem? (i := 21) rfl)
  bord := h _ (List.mem_of_getElem? (i := 22) rfl)
theorem law_is01 (P : Params) : ∃ mod code, IsDef (K01 P) 253 (fdOf "law" (parts pw_re0170_01 71) .none mod code) := ⟨_, _, isDef_at 35 34 rfl rfl rfl rfl rfl rfl rfl rfl rfl rfl⟩
end Mine

/-! HeadL -/
namespace Mine
open PySem PySem.W PySem.Calls PyProof.Rows PySem.Challenge
set_option Elab.async false
set_option maxRecDepth 100000
set_option maxHeartbeats 0
theorem left01_0 (w : World) : (openG pw_re0170_01 (w.withFollow "special-get-raises" false) 6000).bind (seenG pw_re0170_01 q01 loose01 (fun _ => true) (obsT as01 (names01.map (·.1))) true (w.withFollow "special-get-raises" false) 6000) = some (true, openGood q01 loose01, valT K01 names01 (w.withFollow "special-get-raises" false)) := by kernel_rfl
theorem left01_1 (w : World) : (openG pw_re0170_01 (w.withFollow "special-get-raises" true) 6000).bind (seenG pw_re0170_01 q01 loose01 (fun _ => true) (obsT as01 (names01.map (·.1))) true (w.withFollow "special-get-raises" true) 6000) = some (true, openGood q01 loose01, valT K01 names01 (w.withFollow "special-get-raises" true)) := by kernel_rfl
theorem left01 : LeftO pw_re0170_01 q01 loose01 (fun _ => true) (obsT as01 (names01.map (·.1))) (valT K01 names01) 6000 := left_G "special-get-raises" left01_0 left01_1
end Mine

/-! HeadW -/
namespace Mine
open PySem PySem.W PySem.Calls PyProof.Rows PySem.Challenge
set_option Elab.async false
set_option maxRecDepth 100000
set_option maxHeartbeats 0
theorem and_true_of {a b : Bool} (x : a = true) (y : b = true) : (a && b) = true := by rw [x, y]; rfl
theorem said01 : rw_re0170_01.wellSaid = true := by
  rw [Fast.te9446332074065402090]
  unfold Fast.tw9446332074065402090
  refine and_true_of (and_true_of (and_true_of (and_true_of (and_true_of (and_true_of (and_true_of (and_true_of (and_true_of (and_true_of (and_true_of (and_true_of (and_true_of (and_true_of (and_true_of (and_true_of (and_true_of (and_true_of ?_ ?_) ?_) ?_) ?_) ?_) ?_) ?_) ?_) ?_) ?_) ?_) ?_) ?_) ?_) ?_) ?_) ?_) ?_
  case refine_1 =>
    unfold Fast.tw17960256430627541270
    refine and_true_of (and_true_of ?_ ?_) ?_
    case refine_1 =>
      unfold Fast.tw2436336058641802641
      refine and_true_of (and_true_of (and_true_of (and_true_of (and_true_of (and_true_of (and_true_of (and_true_of (and_true_of (and_true_of (and_true_of (and_true_of (and_true_of ?_ ?_) ?_) ?_) ?_) ?_) ?_) ?_) ?_) ?_) ?_) ?_) ?_) ?_
      case refine_1 =>
        unfold Fast.tw12908688711261696721
        refine and_true_of (and_true_of (and_true_of (and_true_of (and_true_of ?_ ?_) ?_) ?_) ?_) ?_
        all_goals (as_aux_lemma => kernel_rfl)
      all_goals (as_aux_lemma => kernel_rfl)
    all_goals (as_aux_lemma => kernel_rfl)
  all_goals (as_aux_lemma => kernel_rfl)
end Mine

/-! Fin1z -/
namespace Mine
open PySem PySem.W PySem.Calls PyProof.Rows PySem.Challenge
set_option Elab.async false
set_option maxRecDepth 100000
set_option maxHeartbeats 400000
noncomputable def obs01 : Shared → List (Option Obj) × Bool × Bool × List (Option Value) := obsT as01 (names01.map (·.1))
theorem ok01 : (chainsOk q01 && opensWell rw_re0170_01.row.prog && (frees rw_re0170_01.row.toRowW && rw_re0170_01.row.within.isEmpty)) = true := by
  refine and_true_of (and_true_of ?_ ?_) (and_true_of ?_ ?_)
  all_goals (as_aux_lemma => kernel_rfl)
theorem bare01 : rw_re0170_01.row.prog.bare := ⟨rfl, rfl, rfl, rfl, rfl, by decide +kernel⟩
theorem prom01 : rw_re0170_01.row.toRowW.promised := ⟨[.list [.int 3, .int 1]], by decide +kernel, by decide +kernel⟩
theorem fin01 (w : World) (mg mb : Str → Option Value) (h : ∀ e ∈ names01, mg e.1 = e.2) (ns : List Int) (hl : ns.length ≤ 63) : FnOk0 rw_re0170_01.prog w mg mb (K01 w.params) 253 (.list (ns.map .int)) (.bool true) 6 := by
  obtain ⟨mod, code, hd⟩ := law_is01 w.params
  exact law_ok hd (s01 w.params mg h) hl
theorem prog01 : rw_re0170_01.row.toRowW.prog = pw_re0170_01 := by kernel_rfl
theorem left01' : LeftO rw_re0170_01.row.toRowW.prog q01 loose01 (fun _ => true) obs01 (valT K01 names01) 6000 := by
  rw [prog01]; exact left01
theorem as01_eq (P : Params) : as01 = (K01 P).map (·.1) := by kernel_rfl
theorem hY01 : ∀ w s, obs01 s = valT K01 names01 w → saysT K01 names01 w s.heap := says_of as01_eq
theorem row01 (said : rw_re0170_01.row.wellSaid = true) : rw_re0170_01.row.Holds := by
  refine @holds_open rw_re0170_01.row q01 loose01 (fun _ => true) (fun _ _ => True) (List (Option Obj) × Bool × Bool × List (Option Value)) obs01 (valT K01 names01) (saysT K01 names01) _ _ 6000 left01' hY01 says_keeps
    (fun _ _ => trivial) (fun _ _ _ _ _ => trivial) (by rfl) (by rfl) (by rfl) (fun s _ => recFacts_nil rfl) (by rfl) said ok01 bare01 prom01 ?_
  exact call_of (l := rw_re0170_01) rfl rfl (f := 253) (n := 6) (List.mem_of_getElem? (i := 7) rfl) (by decide +kernel) (by decide +kernel) fin01
end Mine
theorem PySem.Challenge.cw_re0170_01_holds : PySem.Challenge.rw_re0170_01.Holds := by
  exact PySem.W.holds_law Mine.said01 Mine.row01
