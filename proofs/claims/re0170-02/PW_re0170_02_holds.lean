import PyProof.Rows.All
import Wide.All
import OpenK.AllK
import Wide.FinOn
import PySem.Challenge.RW_re0170_02
set_option Elab.async false
/-! LayA -/
namespace Mine
open PySem PySem.W PySem.Calls PyProof.Rows
set_option Elab.async false

/-- what a value is to us: tokens and addresses forgotten, but for an owned object's own -/
inductive PV where
  | none
  | bool (b : Bool)
  | int (i : Int)
  | str (s : Str)
  | list (l : List PV)
  | tup (l : List PV)
  | dict (l : List (Str × PV))
  | at (a : Addr)
  | val (v : Value)
  | inst (C : Addr) (p : PV)

abbrev Look := Addr → Option Obj
/-- the one attribute of an object of the class -/
abbrev hdrName : Str := "_headers"
abbrev hdrObj (P : Params) (t : Tok) (u : Value) (n : Nat) : Obj := dictOf [⟨PyData.keyHash P hdrName, .str hdrName t, u⟩] n
abbrev listObj (vs : List Value) (n : Nat) : Obj := { cls := .type "list", data := .seq vs.toArray n }
abbrev tupObj (vs : List Value) (n : Nat) : Obj := { cls := .type "tuple", data := .seq vs.toArray n }

mutual
def Rep (P : Params) (L : Look) : PV → Value → Prop
  | .none, v => v = .none
  | .bool b, v => v = .bool b
  | .int i, v => ∃ t, v = .int i t
  | .str s, v => ∃ t, v = .str s t
  | .list l, v => ∃ a vs n, v = .ref a ∧ L a = some (listObj vs n) ∧ RepL P L l vs
  | .tup l, v => ∃ a vs n, v = .ref a ∧ L a = some (tupObj vs n) ∧ RepL P L l vs
  | .dict l, v => ∃ a es n, v = .ref a ∧ (a == sysModules) = false ∧ L a = some (dictOf es n) ∧ RepD P L l es
  | .at a, v => v = .ref a
  | .val x, v => v = x
  | .inst C p, v => ∃ x dx n t u, v = .ref x ∧ L x = some (instObj C dx) ∧ L dx = some (hdrObj P t u n) ∧ Rep P L p u
def RepL (P : Params) (L : Look) : List PV → List Value → Prop
  | [], vs => vs = []
  | p :: l, vs => ∃ v r, vs = v :: r ∧ Rep P L p v ∧ RepL P L l r
def RepD (P : Params) (L : Look) : List (Str × PV) → List DictEntry → Prop
  | [], es => es = []
  | (k, p) :: l, es => ∃ t v r, es = ⟨PyData.keyHash P k, .str k t, v⟩ :: r ∧ Rep P L p v ∧ RepD P L l r
end

def LookLe (L L' : Look) : Prop := ∀ a o, L a = some o → L' a = some o
theorem LookLe.rfl {L : Look} : LookLe L L := fun _ _ h => h
theorem LookLe.trans {L L' L'' : Look} (h : LookLe L L') (k : LookLe L' L'') : LookLe L L'' := fun a o x => k a o (h a o x)

mutual
theorem Rep.mono {P : Params} {L L' : Look} (hl : LookLe L L') : ∀ (p : PV) {v : Value}, Rep P L p v → Rep P L' p v
  | .none, _, h => h
  | .bool _, _, h => h
  | .int _, _, h => h
  | .str _, _, h => h
  | .list l, _, h => by obtain ⟨a, vs, n, e, ho, hr⟩ := h; exact ⟨a, vs, n, e, hl _ _ ho, RepL.mono hl l hr⟩
  | .tup l, _, h => by obtain ⟨a, vs, n, e, ho, hr⟩ := h; exact ⟨a, vs, n, e, hl _ _ ho, RepL.mono hl l hr⟩
  | .dict l, _, h => by obtain ⟨a, vs, n, e, hs, ho, hr⟩ := h; exact ⟨a, vs, n, e, hs, hl _ _ ho, RepD.mono hl l hr⟩
  | .at _, _, h => h
  | .val _, _, h => h
  | .inst C p, _, h => by obtain ⟨x, dx, n, t, u, e, h1, h2, h3⟩ := h; exact ⟨x, dx, n, t, u, e, hl _ _ h1, hl _ _ h2, Rep.mono hl p h3⟩
theorem RepL.mono {P : Params} {L L' : Look} (hl : LookLe L L') : ∀ (l : List PV) {vs : List Value}, RepL P L l vs → RepL P L' l vs
  | [], _, h => h
  | p :: l, _, h => by obtain ⟨v, r, e, h1, h2⟩ := h; exact ⟨v, r, e, Rep.mono hl p h1, RepL.mono hl l h2⟩
theorem RepD.mono {P : Params} {L L' : Look} (hl : LookLe L L') : ∀ (l : List (Str × PV)) {es : List DictEntry}, RepD P L l es → RepD P L' l es
  | [], _, h => h
  | (k, p) :: l, _, h => by obtain ⟨t, v, r, e, h1, h2⟩ := h; exact ⟨t, v, r, e, Rep.mono hl p h1, RepD.mono hl l h2⟩
end

theorem RepL.len {P : Params} {L : Look} : ∀ {l : List PV} {vs : List Value}, RepL P L l vs → vs.length = l.length
  | [], _, h => by cases h; rfl
  | p :: l, _, h => by obtain ⟨v, r, rfl, _, h2⟩ := h; simp [RepL.len h2]
theorem RepD.len {P : Params} {L : Look} : ∀ {l : List (Str × PV)} {vs : List DictEntry}, RepD P L l vs → vs.length = l.length
  | [], _, h => by cases h; rfl
  | p :: l, _, h => by obtain ⟨t, v, r, rfl, _, h2⟩ := h; simp [RepD.len h2]
theorem RepL.app {P : Params} {L : Look} : ∀ {l m : List PV} {vs ws : List Value}, RepL P L l vs → RepL P L m ws → RepL P L (l ++ m) (vs ++ ws)
  | [], _, _, _, h, k => by cases h; exact k
  | p :: l, _, _, _, h, k => by obtain ⟨v, r, rfl, h1, h2⟩ := h; exact ⟨v, _, rfl, h1, RepL.app h2 k⟩
theorem RepL.snoc {P : Params} {L : Look} {l : List PV} {p : PV} {vs : List Value} {v : Value} (h : RepL P L l vs) (k : Rep P L p v) : RepL P L (l ++ [p]) (vs ++ [v]) :=
  RepL.app h ⟨v, [], rfl, k, rfl⟩
theorem RepL.get {P : Params} {L : Look} : ∀ {l : List PV} {vs : List Value} {i : Nat} {p : PV}, RepL P L l vs → l[i]? = some p → ∃ v, vs[i]? = some v ∧ Rep P L p v
  | [], _, _, _, _, e => by simp at e
  | q :: l, _, 0, p, h, e => by obtain ⟨v, r, rfl, h1, _⟩ := h; simp at e; subst e; exact ⟨v, rfl, h1⟩
  | q :: l, _, i + 1, p, h, e => by obtain ⟨v, r, rfl, _, h2⟩ := h; exact RepL.get (l := l) (vs := r) (i := i) h2 (by simpa using e)
theorem RepL.drop {P : Params} {L : Look} : ∀ {l : List PV} {vs : List Value} (k : Nat), RepL P L l vs → RepL P L (l.drop k) (vs.drop k)
  | [], _, k, h => by cases h; simp [RepL]
  | q :: l, _, 0, h => h
  | q :: l, _, k + 1, h => by obtain ⟨v, r, rfl, _, h2⟩ := h; exact RepL.drop k h2
theorem RepL.take {P : Params} {L : Look} : ∀ {l : List PV} {vs : List Value} (k : Nat), RepL P L l vs → RepL P L (l.take k) (vs.take k)
  | [], _, k, h => by cases h; simp [RepL]
  | q :: l, _, 0, h => by simp [RepL]
  | q :: l, _, k + 1, h => by obtain ⟨v, r, rfl, h1, h2⟩ := h; exact ⟨v, _, rfl, h1, RepL.take k h2⟩

/-- the heap without the hidden addresses -/
def vis (h : Heap) (X : List Addr) : Look := fun a => if a ∈ X then none else h.get? a
def Keep (h h' : Heap) : Prop := ∀ b o, h.get? b = some o → h'.get? b = some o
theorem Keep.rfl {h : Heap} : Keep h h := fun _ _ e => e
theorem Keep.trans {h h' h'' : Heap} (k : Keep h h') (l : Keep h' h'') : Keep h h'' := fun b o e => l b o (k b o e)
theorem Keep.push {h h' : Heap} (k : Keep h h') (o : Obj) : Keep h (h'.push o) := fun b o' e => Heap.get?_push_of_some _ (k b o' e)
theorem vis_keep {h h' : Heap} {X : List Addr} (k : Keep h h') : LookLe (vis h X) (vis h' X) := fun a o e => by
  unfold vis at *; split at e
  · cases e
  · rename_i hx; rw [if_neg hx]; exact k a o e
theorem vis_sub {h : Heap} {X Y : List Addr} (k : ∀ a ∈ Y, a ∈ X) : LookLe (vis h X) (vis h Y) := fun a o e => by
  unfold vis at *; split at e
  · cases e
  · rename_i hx; rw [if_neg fun q => hx (k a q)]; exact e
theorem vis_get {h : Heap} {X : List Addr} {a : Addr} {o : Obj} (e : vis h X a = some o) : h.get? a = some o ∧ a ∉ X := by
  unfold vis at e; split at e
  · cases e
  · rename_i hx; exact ⟨e, hx⟩
theorem vis_of {h : Heap} {X : List Addr} {a : Addr} {o : Obj} (e : h.get? a = some o) (n : a ∉ X) : vis h X a = some o := by
  unfold vis; rw [if_neg n]; exact e
theorem vis_but {h h' : Heap} {X : List Addr} {b : Addr} (k : ∀ c o, c ≠ b → h.get? c = some o → h'.get? c = some o) (hb : b ∈ X) : LookLe (vis h X) (vis h' X) := fun a o e => by
  obtain ⟨e1, n⟩ := vis_get e
  exact vis_of (k a o (fun q => n (q ▸ hb)) e1) n

/-- an owned object -/
inductive MO where
  | list (l : List PV)
  | dict (l : List (Str × PV))
  | obj (o : Obj)
def MRep (P : Params) (L : Look) (h : Heap) (a : Addr) : MO → Prop
  | .list l => ∃ vs n, h.get? a = some (listObj vs n) ∧ RepL P L l vs
  | .dict l => (a == sysModules) = false ∧ ∃ es n, h.get? a = some (dictOf es n) ∧ RepD P L l es
  | .obj o => h.get? a = some o
theorem MRep.live {P : Params} {L : Look} {h : Heap} {a : Addr} {m : MO} (x : MRep P L h a m) : ∃ o, h.get? a = some o := by
  cases m with
  | list l => obtain ⟨vs, n, e, _⟩ := x; exact ⟨_, e⟩
  | dict l => obtain ⟨_, vs, n, e, _⟩ := x; exact ⟨_, e⟩
  | obj o => exact ⟨_, x⟩
theorem MRep.move {P : Params} {L L' : Look} {h h' : Heap} {a : Addr} {m : MO} (x : MRep P L h a m) (hl : LookLe L L') (k : ∀ o, h.get? a = some o → h'.get? a = some o) : MRep P L' h' a m := by
  cases m with
  | list l => obtain ⟨vs, n, e, r⟩ := x; exact ⟨vs, n, k _ e, RepL.mono hl l r⟩
  | dict l => obtain ⟨z, vs, n, e, r⟩ := x; exact ⟨z, vs, n, k _ e, RepD.mono hl l r⟩
  | obj o => exact k _ x

/-- the text's own objects, as every heap of the call holds them -/
structure Grd (P : Params) (mg mb : Str → Option Value) (K : List (Addr × Obj)) (h : Heap) : Prop where
  g : h.Ns mainGlobals mg
  b : h.Ns builtinsNs mb
  lim : h.NoLimit
  nb : NoneBooked h
  k : ∀ p ∈ K, h.get? p.1 = some p.2
  bb : ∀ x : Str, x ≠ "__name__" → mb x = bootBuiltins x
theorem Grd.kept {P : Params} {mg mb : Str → Option Value} {K : List (Addr × Obj)} {h h' : Heap} (x : Grd P mg mb K h) (k : Keep h h') : Grd P mg mb K h' where
  g := x.g.keeps k
  b := x.b.keeps k
  lim := x.lim.keeps k
  nb := by obtain ⟨mc, h1, h2⟩ := x.nb; exact ⟨mc, h1.keeps k, h2⟩
  k := fun p hp => k _ _ (x.k p hp)
  bb := x.bb

/-- a frame's fixed part -/
structure Cx where
  prog : Program
  w : World
  A : Around
  env : Env
  wr : Bool
  mg : Str → Option Value
  mb : Str → Option Value
  K : List (Addr × Obj)
  n : Nat
abbrev Cx.G (C : Cx) (h : Heap) : Prop := Grd C.w.params C.mg C.mb C.K h
abbrev Vars := List (Str × PV)
abbrev Owns := List (Addr × MO)
/-- what a stretch of the run stands on: the heap that it keeps, the addresses that it does not see -/
structure Bs where
  h₀ : Heap
  X : List Addr
def Cx.hb (C : Cx) (B : Bs) : List Addr := C.env.locals :: (C.env.cells.map (·.2) ++ B.X)
def Cx.hid (C : Cx) (B : Bs) (M : Owns) : List Addr := M.map (·.1) ++ C.hb B
abbrev Cx.look (C : Cx) (B : Bs) (M : Owns) (h : Heap) : Look := vis h (C.hid B M)
structure Cx.Ok (C : Cx) : Prop where
  fn : C.env.scope.kind = .function
  hh : C.A.handled = none
  units : C.A.units + 4 * C.n + 20 < cLine
  depth : C.A.depth + C.n + 5 < recursionLimit
  gl : C.env.globals = mainGlobals
  bl : C.env.builtins = builtinsNs

structure Est (C : Cx) (B : Bs) (V : Vars) (M : Owns) (h : Heap) : Prop where
  g : C.G B.h₀
  keep : Keep B.h₀ h
  liveX : ∀ a ∈ C.hb B, ∃ o, h.get? a = some o
  newL : B.h₀.get? C.env.locals = none
  locC : ∀ p ∈ C.env.cells, p.2 ≠ C.env.locals
  cells : C.wr = true → (∀ p ∈ C.env.cells, B.h₀.get? p.2 = none) ∧ C.env.cells.Pairwise fun x y => x.2 ≠ y.2
  vars : ∃ m cm : Str → Option Value, h.Ns C.env.locals m ∧ (∀ n c, C.env.cells.lookup n = some c → h.IsCell c (cm n)) ∧
    ∀ x pv, V.lookup x = some pv → ∃ v, Rep C.w.params (C.look B M h) pv v ∧
      ((C.env.kindOf x = some .local ∧ m x = some v) ∨ ((C.env.kindOf x = some .cell ∨ C.env.kindOf x = some .free) ∧ (∃ c, C.env.cells.lookup x = some c) ∧ cm x = some v))
  own : ∀ p ∈ M, MRep C.w.params (C.look B M h) h p.1 p.2 ∧ B.h₀.get? p.1 = none ∧ p.1 ∉ C.hb B
  apart : (M.map (·.1)).Nodup

theorem Est.kept {C : Cx} {B : Bs} {V : Vars} {M : Owns} {h h' : Heap} (x : Est C B V M h) (k : Keep h h') : Est C B V M h' where
  g := x.g
  keep := x.keep.trans k
  liveX := fun a ha => let ⟨o, e⟩ := x.liveX a ha; ⟨o, k a o e⟩
  newL := x.newL
  locC := x.locC
  cells := x.cells
  vars := by
    obtain ⟨m, cm, h1, h2, h3⟩ := x.vars
    refine ⟨m, cm, h1.keeps k, fun n c e => (h2 n c e).keeps k, fun y pv e => ?_⟩
    obtain ⟨v, r, q⟩ := h3 y pv e
    exact ⟨v, r.mono (vis_keep k), q⟩
  own := fun p hp => ⟨(x.own p hp).1.move (vis_keep k) fun o e => k _ o e, (x.own p hp).2⟩
  apart := x.apart
theorem Est.fresh {C : Cx} {B : Bs} {V : Vars} {M : Owns} {h : Heap} (x : Est C B V M h) {a : Addr} (e : h.get? a = none) : a ∉ C.hid B M := fun ha => by
  rcases List.mem_append.mp ha with q | q
  · obtain ⟨p, hp, rfl⟩ := List.mem_map.mp q
    obtain ⟨o, e'⟩ := (x.own p hp).1.live
    rw [e] at e'; cases e'
  · obtain ⟨o, e'⟩ := x.liveX a q
    rw [e] at e'; cases e'
theorem get_size (h : Heap) : h.get? h.objs.size = none := by
  cases e : h.get? h.objs.size with
  | none => rfl
  | some o => exact absurd (Heap.lt_size e) (Nat.lt_irrefl _)

theorem wpAny_tk {α : Type} {M : Model} {A : Around} {t : Sem α} {Q : α → Shared → Prop} {E : Value → Shared → Prop} {s : Shared} (tk : 0 < s.toks) (h : wpAny M A t (fun a s' => 0 < s'.toks → Q a s') E s) : wpAny M A t Q E s :=
  wpAny_mono (wpAny_toks_of (n := 1) (Q := fun v s' => 0 < s'.toks → Q v s') tk h) (fun _ _ q => q.2 q.1) fun _ _ q => q.2
/-- a tree gives pv, in any state of the frame -/
def SV (C : Cx) (V : Vars) (M : Owns) (t : Sem Value) (pv : PV) : Prop :=
  C.Ok → ∀ (B : Bs) (s : Shared) (Q : Value → Shared → Prop) (E : Value → Shared → Prop), Est C B V M s.heap → 0 < s.toks →
    (∀ v h' t', Keep s.heap h' → Rep C.w.params (C.look B M h') pv v → Q v { s with heap := h', toks := t' }) → wpAny (model C.prog C.w) C.A t Q E s
abbrev EV (C : Cx) (V : Vars) (M : Owns) (e : Expr) (pv : PV) : Prop := SV C V M (eval e C.env) pv
def ET (C : Cx) (V : Vars) (M : Owns) (e : Expr) (b : Bool) : Prop :=
  C.Ok → ∀ (B : Bs) (s : Shared) (Q : Bool → Shared → Prop) (E : Value → Shared → Prop), Est C B V M s.heap → 0 < s.toks →
    (∀ h' t', Keep s.heap h' → Q b { s with heap := h', toks := t' }) → wpAny (model C.prog C.w) C.A (isTrue e C.env (eval e C.env)) Q E s
inductive Fl where
  | next
  | brk
  | cont
  | ret (p : PV)
def FlRep (C : Cx) (B : Bs) (h : Heap) : Fl → Flow → Prop
  | .next, f => f = .next
  | .brk, f => f = .brk
  | .cont, f => f = .cont
  | .ret p, f => ∃ v, f = .ret v ∧ Rep C.w.params (vis h (C.hb B)) p v
abbrev Cont := Fl → Vars → Owns → Prop
def XT (C : Cx) (V : Vars) (M : Owns) (t : Sem Flow) (K : Cont) : Prop :=
  C.Ok → ∀ (B : Bs) (s : Shared) (Q : Flow → Shared → Prop) (E : Value → Shared → Prop), Est C B V M s.heap → 0 < s.toks →
    (∀ fl f V' M' h' t', Est C B V' M' h' → FlRep C B h' fl f → K fl V' M' → Q f { s with heap := h', toks := t' }) → wpAny (model C.prog C.w) C.A t Q E s
abbrev EX (C : Cx) (V : Vars) (M : Owns) (b : List Stmt) (K : Cont) : Prop := XT C V M (execs b C.env) K
abbrev EX1 (C : Cx) (V : Vars) (M : Owns) (b : Stmt) (K : Cont) : Prop := XT C V M (exec b C.env) K

section
variable {C : Cx} {V : Vars} {M : Owns} {K : Cont}

theorem Est.G {B : Bs} {h : Heap} (x : Est C B V M h) : C.G h := x.g.kept x.keep
theorem SV.then {t : Sem Value} {pv : PV} (h : SV C V M t pv) (ok : C.Ok) {B : Bs} {s : Shared} {Q : Value → Shared → Prop} {E : Value → Shared → Prop} (hE : Est C B V M s.heap) (tk : 0 < s.toks)
    (k : ∀ v h' t', Keep s.heap h' → Est C B V M h' → 0 < t' → Rep C.w.params (C.look B M h') pv v → Q v { s with heap := h', toks := t' }) : wpAny (model C.prog C.w) C.A t Q E s :=
  wpAny_mono (wpAny_toks_of (n := 1) (Q := fun v s' => 0 < s'.toks → Q v s') tk (h ok B s (fun v s' => 0 < s'.toks → Q v s') E hE tk fun v h' t' kp r pt => k v h' t' kp (hE.kept kp) pt r)) (fun _ _ q => q.2 q.1) fun _ _ q => q.2
theorem ET.then {t : Expr} {b : Bool} (h : ET C V M t b) (ok : C.Ok) {B : Bs} {s : Shared} {Q : Bool → Shared → Prop} {E : Value → Shared → Prop} (hE : Est C B V M s.heap) (tk : 0 < s.toks)
    (k : ∀ h' t', Keep s.heap h' → Est C B V M h' → 0 < t' → Q b { s with heap := h', toks := t' }) : wpAny (model C.prog C.w) C.A (isTrue t C.env (eval t C.env)) Q E s :=
  wpAny_mono (wpAny_toks_of (n := 1) (Q := fun v s' => 0 < s'.toks → Q v s') tk (h ok B s (fun v s' => 0 < s'.toks → Q v s') E hE tk fun h' t' kp pt => k h' t' kp (hE.kept kp) pt)) (fun _ _ q => q.2 q.1) fun _ _ q => q.2
theorem XT.then {t : Sem Flow} (h : XT C V M t K) (ok : C.Ok) {B : Bs} {s : Shared} {Q : Flow → Shared → Prop} {E : Value → Shared → Prop} (hE : Est C B V M s.heap) (tk : 0 < s.toks)
    (k : ∀ fl f V' M' h' t', Est C B V' M' h' → 0 < t' → FlRep C B h' fl f → K fl V' M' → Q f { s with heap := h', toks := t' }) : wpAny (model C.prog C.w) C.A t Q E s :=
  wpAny_mono (wpAny_toks_of (n := 1) (Q := fun v s' => 0 < s'.toks → Q v s') tk (h ok B s (fun v s' => 0 < s'.toks → Q v s') E hE tk fun fl f V' M' h' t' e' r hk pt => k fl f V' M' h' t' e' pt r hk)) (fun _ _ q => q.2 q.1) fun _ _ q => q.2

theorem EX.nil (h : K .next V M) : EX C V M [] K := fun _ B s Q E hE tk k => wpAny_execs_nil (k .next .next V M s.heap s.toks hE rfl h)
theorem EX.cons {st : Stmt} {rest : List Stmt} (h : EX1 C V M st (fun fl V' M' => match fl with | .next => EX C V' M' rest K | f => K f V' M')) : EX C V M (st :: rest) K := fun ok B s Q E hE tk k => by
  refine wpAny_execs_cons (h.then ok hE tk fun fl f V' M' h' t' e' pt r hk => ?_)
  cases fl with
  | next => cases r; exact hk ok B { s with heap := h', toks := t' } Q E e' pt fun fl f V'' M'' h'' t'' => k fl f V'' M'' h'' t''
  | brk => cases r; exact k .brk .brk V' M' h' t' e' rfl hk
  | cont => cases r; exact k .cont .cont V' M' h' t' e' rfl hk
  | ret p => obtain ⟨v, rfl, r⟩ := r; exact k (.ret p) (.ret v) V' M' h' t' e' ⟨v, rfl, r⟩ hk

theorem XT.mono {t : Sem Flow} {K' : Cont} (h : XT C V M t K) (k : ∀ fl V' M', K fl V' M' → K' fl V' M') : XT C V M t K' := fun ok B s Q E hE tk q =>
  h ok B s Q E hE tk fun fl f V' M' h' t' e' r hk => q fl f V' M' h' t' e' r (k _ _ _ hk)

/-- the frame's own, writable addresses -/
def Cx.own (C : Cx) (M : Owns) : List Addr := M.map (·.1) ++ C.env.locals :: (if C.wr then C.env.cells.map (·.2) else [])
theorem Est.weaken {h₀ h₁ h : Heap} {X : List Addr} (k : Keep h₀ h₁) (g : C.G h₀) (x : Est C ⟨h₁, X⟩ V M h) : Est C ⟨h₀, X⟩ V M h :=
  have z : ∀ a, h₁.get? a = none → h₀.get? a = none := fun a e => by
    cases q : h₀.get? a with
    | none => rfl
    | some o => rw [k a o q] at e; cases e
  ⟨g, k.trans x.keep, x.liveX, z _ x.newL, x.locC, fun w => ⟨fun p hp => z _ ((x.cells w).1 p hp), (x.cells w).2⟩, x.vars, fun p hp => ⟨(x.own p hp).1, z _ (x.own p hp).2.1, (x.own p hp).2.2⟩, x.apart⟩
theorem Est.strip_keep {B : Bs} {h : Heap} (x : Est C B V M h) (wr : List Addr) (hw : ∀ b ∈ wr, B.h₀.get? b = none) : Keep B.h₀ (hideAll h (C.own M ++ wr)) := fun b o e => hideAll_get _ (x.keep b o e) fun hm => by
  have z : ∀ c, B.h₀.get? c = none → b ≠ c := fun c q r => by rw [r, q] at e; cases e
  rcases List.mem_append.mp hm with hm | q
  · rcases List.mem_append.mp hm with q | q
    · obtain ⟨p, hp, rfl⟩ := List.mem_map.mp q
      exact z _ (x.own p hp).2.1 rfl
    · rcases List.mem_cons.mp q with q | q
      · exact z _ x.newL q
      · split at q
        · rename_i w
          obtain ⟨p, hp, rfl⟩ := List.mem_map.mp q
          exact z _ ((x.cells w).1 p hp) rfl
        · cases q
  · exact z _ (hw b q) rfl
theorem Cx.hb_mono {C : Cx} {B B' : Bs} (h : ∀ a ∈ B'.X, a ∈ B.X) : ∀ a ∈ C.hb B', a ∈ C.hb B := fun a ha => by
  rcases List.mem_cons.mp ha with q | q
  · rw [q]; exact List.mem_cons_self
  · rcases List.mem_append.mp q with q | q
    · exact List.mem_cons_of_mem _ (List.mem_append_left _ q)
    · exact List.mem_cons_of_mem _ (List.mem_append_right _ (h a q))
theorem Cx.hid_mono {C : Cx} {B B' : Bs} {M : Owns} (h : ∀ a ∈ B'.X, a ∈ B.X) : ∀ a ∈ C.hid B' M, a ∈ C.hid B M := fun a ha => by
  rcases List.mem_append.mp ha with q | q
  · exact List.mem_append_left _ q
  · exact List.mem_append_right _ (Cx.hb_mono h a q)
/-- fewer unseen addresses -/
theorem Est.seeX {h₀ h : Heap} {X Y : List Addr} (x : Est C ⟨h₀, X⟩ V M h) (hs : ∀ a ∈ Y, a ∈ X) : Est C ⟨h₀, Y⟩ V M h := by
  have hl : LookLe (C.look ⟨h₀, X⟩ M h) (C.look ⟨h₀, Y⟩ M h) := vis_sub (Cx.hid_mono (B := ⟨h₀, X⟩) (B' := ⟨h₀, Y⟩) hs)
  exact {
    g := x.g
    keep := x.keep
    liveX := fun a ha => x.liveX a (Cx.hb_mono (B := ⟨h₀, X⟩) (B' := ⟨h₀, Y⟩) hs a ha)
    newL := x.newL
    locC := x.locC
    cells := x.cells
    vars := by
      obtain ⟨m, cm, h1, h2, h3⟩ := x.vars
      exact ⟨m, cm, h1, h2, fun y pv e => let ⟨v, r, q⟩ := h3 y pv e; ⟨v, r.mono hl, q⟩⟩
    own := fun p hp => ⟨(x.own p hp).1.move hl fun _ e => e, (x.own p hp).2.1, fun q => (x.own p hp).2.2 (Cx.hb_mono (B := ⟨h₀, X⟩) (B' := ⟨h₀, Y⟩) hs _ q)⟩
    apart := x.apart }
/-- the state as it stands, as the base of what follows; new things, unseen -/
theorem Est.rebase {B : Bs} {h : Heap} (x : Est C B V M h) : Est C ⟨hideAll h (C.own M), B.X⟩ V M h where
  g := x.g.kept (by have := x.strip_keep [] (fun _ q => nomatch q); rwa [List.append_nil] at this)
  keep := fun b o e => of_hideAll _ e
  liveX := x.liveX
  newL := hideAll_none _ (List.mem_append_right _ List.mem_cons_self)
  locC := x.locC
  cells := fun w => ⟨fun p hp => hideAll_none _ (List.mem_append_right _ (List.mem_cons_of_mem _ (by rw [if_pos w]; exact List.mem_map.mpr ⟨p, hp, rfl⟩))), (x.cells w).2⟩
  vars := x.vars
  own := fun p hp => ⟨(x.own p hp).1, hideAll_none _ (List.mem_append_left _ (List.mem_map.mpr ⟨p, hp, rfl⟩)), (x.own p hp).2.2⟩
  apart := x.apart
theorem Est.back {B : Bs} {h h' : Heap} {V' : Vars} {M' : Owns} (x : Est C B V M h) (y : Est C ⟨hideAll h (C.own M), B.X⟩ V' M' h') : Est C B V' M' h' :=
  y.weaken (by have := x.strip_keep [] (fun _ q => nomatch q); rwa [List.append_nil] at this) x.g
/-- what the base shows is seen for good -/
theorem Est.base_look {B : Bs} {h : Heap} (x : Est C B V M h) : LookLe (vis B.h₀ (C.hb B)) (C.look B M h) := fun a o e => by
  obtain ⟨e1, n⟩ := vis_get e
  refine vis_of (x.keep a o e1) fun hm => ?_
  rcases List.mem_append.mp hm with q | q
  · obtain ⟨p, hp, rfl⟩ := List.mem_map.mp q
    rw [(x.own p hp).2.1] at e1; cases e1
  · exact n q
end
end Mine

/-! LayB -/
namespace Mine
open PySem PySem.W PySem.Calls PyProof.Rows
set_option Elab.async false
section
variable {C : Cx} {V : Vars} {M : Owns} {K : Cont}

theorem Rep.get {P : Params} {L L' : Look} {p : PV} {v : Value} (h : Rep P L p v) (hl : LookLe L L') : Rep P L' p v := Rep.mono hl p h

theorem EV.local {x : Str} {pos : Pos} {pv : PV} (hk : C.env.kindOf x = some .local) (hv : V.lookup x = some pv) (hd : (x == ("__debug__" : Str)) = false := by decide) : EV C V M (.Name x pos) pv := fun ok B s Q E hE tk k => by
  obtain ⟨m, cm, h1, h2, h3⟩ := hE.vars
  obtain ⟨v, r, q⟩ := h3 x pv hv
  rcases q with ⟨_, q⟩ | ⟨q, _⟩
  · exact wpAny_Name (wpAny_loadName_local ok.fn hk h1 q (k v s.heap s.toks .rfl r)) hd
  · rw [hk] at q; rcases q with q | q <;> cases q
theorem EV.cell {x : Str} {pos : Pos} {pv : PV} (hk : C.env.kindOf x = some .cell) (hv : V.lookup x = some pv) (hd : (x == ("__debug__" : Str)) = false := by decide) : EV C V M (.Name x pos) pv := fun ok B s Q E hE tk k => by
  obtain ⟨m, cm, h1, h2, h3⟩ := hE.vars
  obtain ⟨v, r, q⟩ := h3 x pv hv
  rcases q with ⟨q, _⟩ | ⟨_, ⟨c, hc⟩, q⟩
  · rw [hk] at q; cases q
  · exact wpAny_Name (wpAny_loadName_cell ok.fn hk hc (q ▸ h2 x c hc) (k v s.heap s.toks .rfl r)) hd
theorem EV.global {x : Str} {pos : Pos} {v : Value} (hk : C.env.kindOf x = some .globalImplicit) (hv : C.mg x = some v) {pv : PV} (hr : ∀ P L, Rep P L pv v) (hd : (x == ("__debug__" : Str)) = false := by decide) : EV C V M (.Name x pos) pv := fun ok B s Q E hE tk k => by
  exact Name_function_global ok.fn hk (loadGlobal_global (by rw [ok.gl]; exact hE.G.g) hv (k v s.heap s.toks .rfl (hr _ _))) hd
theorem EV.builtin {x : Str} {pos : Pos} {v : Value} (hk : C.env.kindOf x = some .globalImplicit) (hn : C.mg x = none) (hv : bootBuiltins x = some v) (hx : x ≠ "__name__") (hd : (x == ("__debug__" : Str)) = false := by decide) : EV C V M (.Name x pos) (.val v) := fun ok B s Q E hE tk k => by
  exact Name_function_global ok.fn hk (loadGlobal_builtin (by rw [ok.gl]; exact hE.G.g) hn (by rw [ok.bl]; exact hE.G.b) ((hE.g.bb x hx).trans hv) (k v s.heap s.toks .rfl rfl)) hd

theorem EV.cint {i : Int} {k : Nat} {pos : Pos} : EV C V M (.Constant (.int i) k pos) (.int i) := fun ok B s Q E hE tk q => wpAny_Constant_int (q _ s.heap (s.toks + 1) .rfl ⟨_, rfl⟩)
theorem EV.cstr {x : Str} {k : Nat} {pos : Pos} : EV C V M (.Constant (.str x) k pos) (.str x) := fun ok B s Q E hE tk q => wpAny_Constant_str (q _ s.heap (s.toks + 1) .rfl ⟨_, rfl⟩)
theorem EV.cbool {b : Bool} {k : Nat} {pos : Pos} : EV C V M (.Constant (.bool b) k pos) (.bool b) := fun ok B s Q E hE tk q => wpAny_Constant_bool (q _ s.heap s.toks .rfl rfl)
theorem EV.cnone {k : Nat} {pos : Pos} : EV C V M (.Constant .none k pos) .none := fun ok B s Q E hE tk q => wpAny_Constant_none (q _ s.heap s.toks .rfl rfl)

/-- two values, a tree over them -/
def Bi (C : Cx) (V : Vars) (M : Owns) (t : Value → Value → Sem Value) (p q r : PV) : Prop :=
  C.Ok → ∀ (B : Bs) (a b : Value) (s : Shared) (Q : Value → Shared → Prop) (E : Value → Shared → Prop), Est C B V M s.heap → 0 < s.toks → Rep C.w.params (C.look B M s.heap) p a → Rep C.w.params (C.look B M s.heap) q b →
    (∀ v h' t', Keep s.heap h' → Rep C.w.params (C.look B M h') r v → Q v { s with heap := h', toks := t' }) → wpAny (model C.prog C.w) C.A (t a b) Q E s
def Un (C : Cx) (V : Vars) (M : Owns) (t : Value → Sem Value) (p r : PV) : Prop :=
  C.Ok → ∀ (B : Bs) (a : Value) (s : Shared) (Q : Value → Shared → Prop) (E : Value → Shared → Prop), Est C B V M s.heap → 0 < s.toks → Rep C.w.params (C.look B M s.heap) p a →
    (∀ v h' t', Keep s.heap h' → Rep C.w.params (C.look B M h') r v → Q v { s with heap := h', toks := t' }) → wpAny (model C.prog C.w) C.A (t a) Q E s

theorem EV.bin {l r : Expr} {op : Operator} {pos : Pos} {p q z : PV} (hl : EV C V M l p) (hr : EV C V M r q) (h : Bi C V M (binaryOp op) p q z) : EV C V M (.BinOp l op r pos) z := fun ok B s Q E hE tk k => by
  refine wpAny_BinOp (hl.then ok hE tk fun a h1 t1 k1 e1 p1 r1 => ?_)
  refine hr.then ok (s := { s with heap := h1, toks := t1 }) e1 p1 fun b h2 t2 k2 e2 p2 r2 => ?_
  exact h ok B a b { s with heap := h2, toks := t2 } Q E e2 p2 (r1.get (vis_keep k2)) r2 fun v h3 t3 k3 r3 => k v h3 t3 (k1.trans (k2.trans k3)) r3
theorem EV.cmp {l r : Expr} {op : CmpOp} {pos : Pos} {p q z : PV} (hl : EV C V M l p) (hr : EV C V M r q) (h : Bi C V M (compareOp op) p q z) (hm : behindInMarks op r = false) : EV C V M (.Compare l [op] [r] pos) z := fun ok B s Q E hE tk k => by
  refine wpAny_Compare1 (hl.then ok hE tk fun a h1 t1 k1 e1 p1 r1 => ?_) hm
  refine hr.then ok (s := { s with heap := h1, toks := t1 }) e1 p1 fun b h2 t2 k2 e2 p2 r2 => ?_
  exact h ok B a b { s with heap := h2, toks := t2 } Q E e2 p2 (r1.get (vis_keep k2)) r2 fun v h3 t3 k3 r3 => k v h3 t3 (k1.trans (k2.trans k3)) r3
theorem ET.cmp {l r : Expr} {op : CmpOp} {pos : Pos} {p q : PV} {b : Bool} (hl : EV C V M l p) (hr : EV C V M r q) (h : Bi C V M (compareOp op) p q (.bool b)) (hm : behindInMarks op r = false) : ET C V M (.Compare l [op] [r] pos) b := fun ok B s Q E hE tk k => by
  refine wpAny_isTrue_Compare1 (hl.then ok hE tk fun a h1 t1 k1 e1 p1 r1 => ?_) hm
  refine hr.then ok (s := { s with heap := h1, toks := t1 }) e1 p1 fun b h2 t2 k2 e2 p2 r2 => ?_
  refine h ok B a b { s with heap := h2, toks := t2 } _ E e2 p2 (r1.get (vis_keep k2)) r2 fun v h3 t3 k3 r3 => ?_
  cases r3
  exact wpAny_truthy_bool (k h3 t3 (k1.trans (k2.trans k3)))
theorem ET.not {x : Expr} {pos : Pos} {b : Bool} (h : ET C V M x b) : ET C V M (.UnaryOp .Not x pos) (!b) := fun ok B s Q E hE tk k =>
  wpAny_isTrue_Not (h ok B s _ E hE tk k)
def AllT (C : Cx) (V : Vars) (M : Owns) (op : BoolOp) (es : List Expr) (b : Bool) : Prop :=
  C.Ok → ∀ (B : Bs) (s : Shared) (Q : Bool → Shared → Prop) (E : Value → Shared → Prop), Est C B V M s.heap → 0 < s.toks →
    (∀ h' t', Keep s.heap h' → Q b { s with heap := h', toks := t' }) → wpAny (model C.prog C.w) C.A (allTrue op es C.env) Q E s
theorem ET.bool {op : BoolOp} {es : List Expr} {pos : Pos} {b : Bool} (h : AllT C V M op es b) : ET C V M (.BoolOp op es pos) b := fun ok B s Q E hE tk k =>
  wpAny_isTrue_BoolOp (h ok B s Q E hE tk k)
theorem AllT.and_nil : AllT C V M .And [] true := fun _ _ s _ _ _ _ k => wpAny_allTrue_And_nil (k s.heap s.toks .rfl)
theorem AllT.and_false {e : Expr} {es : List Expr} (h : ET C V M e false) : AllT C V M .And (e :: es) false := fun ok B s Q E hE tk k =>
  wpAny_allTrue_And_cons (h ok B s _ E hE tk k)
theorem AllT.and_true {e : Expr} {es : List Expr} {b : Bool} (h : ET C V M e true) (h2 : AllT C V M .And es b) : AllT C V M .And (e :: es) b := fun ok B s Q E hE tk k =>
  wpAny_allTrue_And_cons (h.then ok hE tk fun h1 t1 k1 e1 p1 => h2 ok B { s with heap := h1, toks := t1 } Q E e1 p1 fun h2 t2 k2 => k h2 t2 (k1.trans k2))
theorem AllT.and {e : Expr} {es : List Expr} {a b : Bool} (h : ET C V M e a) (h2 : a = true → AllT C V M .And es b) : AllT C V M .And (e :: es) (a && b) := by
  cases a
  · exact AllT.and_false h
  · exact AllT.and_true h (h2 rfl)

/-- truth of a value -/
def Tr (C : Cx) (V : Vars) (M : Owns) (p : PV) (b : Bool) : Prop :=
  C.Ok → ∀ (B : Bs) (a : Value) (s : Shared) (Q : Bool → Shared → Prop) (E : Value → Shared → Prop), Est C B V M s.heap → 0 < s.toks → Rep C.w.params (C.look B M s.heap) p a →
    (∀ h' t', Keep s.heap h' → Q b { s with heap := h', toks := t' }) → wpAny (model C.prog C.w) C.A (truthy a) Q E s
theorem ET.val {e : Expr} {p : PV} {b : Bool} (h : EV C V M e p) (ht : Tr C V M p b)
    (he : isTrue e C.env (eval e C.env) = (do let v ← eval e C.env; standAt e.pos; holding [v] (truthy v))) : ET C V M e b := fun ok B s Q E hE tk k =>
  wpAny_isTrue_value (h.then ok hE tk fun a h1 t1 k1 e1 p1 r1 => ht ok B a { s with heap := h1, toks := t1 } Q E e1 p1 r1 fun h2 t2 k2 => k h2 t2 (k1.trans k2)) he
theorem Tr.bool {b : Bool} : Tr C V M (.bool b) b := fun ok B a s Q E hE tk r k => by cases r; exact wpAny_truthy_bool (k s.heap s.toks .rfl)

theorem Bi.add_int {a b : Int} : Bi C V M (binaryOp .Add) (.int a) (.int b) (.int (a + b)) := fun ok B _ _ s Q E hE tk r1 r2 k => by
  obtain ⟨t, rfl⟩ := r1; obtain ⟨u, rfl⟩ := r2
  exact PyProof.Rows.add_int (k _ s.heap (s.toks + 1) .rfl ⟨_, rfl⟩)
theorem Bi.sub_int {a b : Int} : Bi C V M (binaryOp .Sub) (.int a) (.int b) (.int (a - b)) := fun ok B _ _ s Q E hE tk r1 r2 k => by
  obtain ⟨t, rfl⟩ := r1; obtain ⟨u, rfl⟩ := r2
  exact PyProof.Rows.sub_int (k _ s.heap (s.toks + 1) .rfl ⟨_, rfl⟩)
theorem Bi.mod_int {a b : Int} (hb : b ≠ 0) : Bi C V M (binaryOp .Mod) (.int a) (.int b) (.int (a.fmod b)) := fun ok B _ _ s Q E hE tk r1 r2 k => by
  obtain ⟨t, rfl⟩ := r1; obtain ⟨u, rfl⟩ := r2
  exact PyProof.Rows.mod_int hb (k _ s.heap (s.toks + 1) .rfl ⟨_, rfl⟩)
theorem Bi.div_int {a b : Int} (hb : b ≠ 0) (hp : Builtin.divisionGoesByPylong a b = false) : Bi C V M (binaryOp .FloorDiv) (.int a) (.int b) (.int (a.fdiv b)) := fun ok B _ _ s Q E hE tk r1 r2 k => by
  obtain ⟨t, rfl⟩ := r1; obtain ⟨u, rfl⟩ := r2
  exact PyProof.Rows.floordiv_int hb (k _ s.heap (s.toks + 1) .rfl ⟨_, rfl⟩) (.inl hp)
theorem Bi.add_str {a b : Str} (hz : a.length + b.length ≤ sizeLine) : Bi C V M (binaryOp .Add) (.str a) (.str b) (.str (a ++ b)) := fun ok B _ _ s Q E hE tk r1 r2 k => by
  obtain ⟨t, rfl⟩ := r1; obtain ⟨u, rfl⟩ := r2
  exact PyProof.Rows.add_str (fun t' tk => k _ s.heap tk .rfl ⟨_, rfl⟩) hz
theorem Bi.eq_int {a b : Int} : Bi C V M (compareOp .Eq) (.int a) (.int b) (.bool (a == b)) := fun ok B _ _ s Q E hE tk r1 r2 k => by
  obtain ⟨t, rfl⟩ := r1; obtain ⟨u, rfl⟩ := r2
  exact PyProof.Rows.eq_int (k _ s.heap s.toks .rfl rfl)
theorem Bi.eq_str {a b : Str} : Bi C V M (compareOp .Eq) (.str a) (.str b) (.bool (a == b)) := fun ok B _ _ s Q E hE tk r1 r2 k => by
  obtain ⟨t, rfl⟩ := r1; obtain ⟨u, rfl⟩ := r2
  exact PyProof.Rows.eq_str (k _ s.heap s.toks .rfl rfl)
theorem Bi.lt_int {a b : Int} : Bi C V M (compareOp .Lt) (.int a) (.int b) (.bool (decide (a < b))) := fun ok B _ _ s Q E hE tk r1 r2 k => by
  obtain ⟨t, rfl⟩ := r1; obtain ⟨u, rfl⟩ := r2
  exact wpAny_lt_int (k _ s.heap s.toks .rfl rfl)
theorem Bi.gt_int {a b : Int} : Bi C V M (compareOp .Gt) (.int a) (.int b) (.bool (decide (a > b))) := fun ok B _ _ s Q E hE tk r1 r2 k => by
  obtain ⟨t, rfl⟩ := r1; obtain ⟨u, rfl⟩ := r2
  exact PyProof.Rows.gt_int (k _ s.heap s.toks .rfl rfl)
theorem Bi.le_int {a b : Int} : Bi C V M (compareOp .LtE) (.int a) (.int b) (.bool (decide (a ≤ b))) := fun ok B _ _ s Q E hE tk r1 r2 k => by
  obtain ⟨t, rfl⟩ := r1; obtain ⟨u, rfl⟩ := r2
  exact PyProof.Rows.le_int (k _ s.heap s.toks .rfl rfl)

/-- the frame's variables, a name anew -/
theorem lookup_cons_of {α : Type} {x y : Str} {p : α} {l : List (Str × α)} : List.lookup y ((x, p) :: l) = if y = x then some p else List.lookup y l := by
  rw [List.lookup_cons]
  by_cases h : y = x
  · subst h; simp
  · have : (y == x) = false := by simpa using h
    rw [this, if_neg h]
theorem Est.store {x : Str} {pv : PV} {v : Value} {B : Bs} {h h' : Heap} (hE : Est C B V M h) (hk : C.env.kindOf x = some .local) (hr : Rep C.w.params (C.look B M h) pv v) {m cm : Str → Option Value}
    (h2 : ∀ n c, C.env.cells.lookup n = some c → h.IsCell c (cm n))
    (h3 : ∀ x pv, V.lookup x = some pv → ∃ v, Rep C.w.params (C.look B M h) pv v ∧
      ((C.env.kindOf x = some .local ∧ m x = some v) ∨ ((C.env.kindOf x = some .cell ∨ C.env.kindOf x = some .free) ∧ (∃ c, C.env.cells.lookup x = some c) ∧ cm x = some v)))
    (hn : h'.Ns C.env.locals (fun y => if y = x then some v else m y)) (hs : Heap.SameBut C.env.locals h h') : Est C B ((x, pv) :: V) M h' where
  g := hE.g
  keep := fun b o e => hs.extBut b o (fun q => by subst q; rw [hE.newL] at e; cases e) (hE.keep b o e)
  liveX := fun a ha => by
    by_cases q : a = C.env.locals
    · obtain ⟨o, es, ep, e, _⟩ := hn; exact ⟨o, q ▸ e⟩
    · obtain ⟨o, e⟩ := hE.liveX a ha; exact ⟨o, hs.extBut a o q e⟩
  newL := hE.newL
  locC := hE.locC
  cells := hE.cells
  vars := by
    have hl : LookLe (C.look B M h) (C.look B M h') := vis_but (fun c o n e => hs.extBut c o n e) (List.mem_append_right _ List.mem_cons_self)
    refine ⟨_, cm, hn, fun n c e => (h2 n c e).sameBut hs (hE.locC (n, c) (mem_of_lookup e)), fun y qv e => ?_⟩
    rw [lookup_cons_of] at e
    by_cases q : y = x
    · subst q
      rw [if_pos rfl] at e; cases e
      exact ⟨v, hr.mono hl, .inl ⟨hk, by simp⟩⟩
    · rw [if_neg q] at e
      obtain ⟨v', r', z⟩ := h3 y qv e
      refine ⟨v', r'.mono hl, z.imp (fun ⟨a, b⟩ => ⟨a, by rw [if_neg q]; exact b⟩) id⟩
  own := fun p hp => by
    have hl : LookLe (C.look B M h) (C.look B M h') := vis_but (fun c o n e => hs.extBut c o n e) (List.mem_append_right _ List.mem_cons_self)
    refine ⟨(hE.own p hp).1.move hl fun o e => hs.extBut _ _ (fun q => (hE.own p hp).2.2 ?_) e, (hE.own p hp).2⟩
    show p.1 ∈ C.env.locals :: _
    rw [q]; exact List.mem_cons_self
  apart := hE.apart
theorem Est.storeC {x : Str} {pv : PV} {v : Value} {B : Bs} {h h' : Heap} {c : Addr} (hE : Est C B V M h) (hw : C.wr = true) (hk : C.env.kindOf x = some .cell) (hc : C.env.cells.lookup x = some c) (hr : Rep C.w.params (C.look B M h) pv v) {m cm : Str → Option Value}
    (h1 : h.Ns C.env.locals m) (h2 : ∀ n c, C.env.cells.lookup n = some c → h.IsCell c (cm n))
    (h3 : ∀ x pv, V.lookup x = some pv → ∃ v, Rep C.w.params (C.look B M h) pv v ∧
      ((C.env.kindOf x = some .local ∧ m x = some v) ∨ ((C.env.kindOf x = some .cell ∨ C.env.kindOf x = some .free) ∧ (∃ c, C.env.cells.lookup x = some c) ∧ cm x = some v)))
    (hn : h'.IsCell c (some v)) (hs : Heap.SameBut c h h') : Est C B ((x, pv) :: V) M h' := by
  have hcm := mem_of_lookup hc
  have hch : c ∈ C.hb B := List.mem_cons_of_mem _ (List.mem_append_left _ (List.mem_map.mpr ⟨_, hcm, rfl⟩))
  have hl : LookLe (C.look B M h) (C.look B M h') := vis_but (fun c o n e => hs.extBut c o n e) (List.mem_append_right _ hch)
  exact {
    g := hE.g
    keep := fun b o e => hs.extBut b o (fun q => by have := (hE.cells hw).1 _ hcm; rw [← q, e] at this; cases this) (hE.keep b o e)
    liveX := fun a ha => by
      by_cases q : a = c
      · obtain ⟨o, e, _⟩ := hn; exact ⟨o, q ▸ e⟩
      · obtain ⟨o, e⟩ := hE.liveX a ha; exact ⟨o, hs.extBut a o q e⟩
    newL := hE.newL
    locC := hE.locC
    cells := hE.cells
    vars := by
      refine ⟨m, (fun y => if y = x then some v else cm y), h1.sameBut hs (Ne.symm (hE.locC _ hcm)), fun n c' e => ?_, fun y qv e => ?_⟩
      · by_cases q : n = x
        · subst q; rw [hc] at e; cases e; simpa using hn
        · simp only [if_neg q]
          exact (h2 n c' e).sameBut hs fun z => q (name_of_addr (hE.cells hw).2 (mem_of_lookup e) (z ▸ hcm))
      · rw [lookup_cons_of] at e
        by_cases q : y = x
        · subst q
          rw [if_pos rfl] at e; cases e
          exact ⟨v, hr.mono hl, .inr ⟨.inl hk, ⟨c, hc⟩, by simp⟩⟩
        · rw [if_neg q] at e
          obtain ⟨v', r', z⟩ := h3 y qv e
          exact ⟨v', r'.mono hl, z.imp id fun ⟨a, b, d⟩ => ⟨a, b, by simp only [if_neg q]; exact d⟩⟩
    own := fun p hp => ⟨(hE.own p hp).1.move hl fun o e => hs.extBut _ _ (fun q => (hE.own p hp).2.2 (q ▸ hch)) e, (hE.own p hp).2⟩
    apart := hE.apart }

/-- a store of a value in hand -/
theorem wp_store {x : Str} {pv : PV} {v : Value} {B : Bs} {s : Shared} {Q : Unit → Shared → Prop} {E : Value → Shared → Prop} (ok : C.Ok) (hk : C.env.kindOf x = some .local ∨ (C.wr = true ∧ C.env.kindOf x = some .cell ∧ (C.env.cells.lookup x).isSome = true)) (hE : Est C B V M s.heap)
    (hr : Rep C.w.params (C.look B M s.heap) pv v) (k : ∀ h' t', Est C B ((x, pv) :: V) M h' → Q () { s with heap := h', toks := t' }) : wpAny (model C.prog C.w) C.A (storeName C.env x v) Q E s := by
  obtain ⟨m, cm, h1, h2, h3⟩ := hE.vars
  rcases hk with hk | ⟨hw, hk, hc⟩
  · refine wpAny_storeName_local hk h1 (fun h' hn hs => k h' (s.toks + 1) (hE.store hk hr h2 h3 hn hs)) (by rw [ok.fn]; rfl)
  · obtain ⟨c, hc⟩ := Option.isSome_iff_exists.mp hc
    exact wpAny_storeName_cell ok.fn hk hc (h2 x c hc) fun h' hn hs => k h' s.toks (hE.storeC hw hk hc hr h1 h2 h3 hn hs)
end
end Mine

/-! LayC -/
namespace Mine
open PySem PySem.W PySem.Calls PyProof.Rows
set_option Elab.async false
section
variable {C : Cx} {V : Vars} {M : Owns} {K : Cont}

def Cx.St (C : Cx) (x : Str) : Prop := C.env.kindOf x = some .local ∨ (C.wr = true ∧ C.env.kindOf x = some .cell ∧ (C.env.cells.lookup x).isSome = true)

theorem EX1.assign {x : Str} {pos' pos : Pos} {e : Expr} {pv : PV} (hk : C.St x) (hv : EV C V M e pv) (hs : swapsWith e (some (.Name x pos')) pos.line C.env = pure false) (h : K .next ((x, pv) :: V) M) :
    EX1 C V M (.Assign [.Name x pos'] e pos) K := fun ok B s Q E hE tk k => by
  refine wpAny_Assign_Name (hv.then ok hE tk fun v h1 t1 k1 e1 p1 r1 => ?_) hs
  exact wp_store ok (s := { s with heap := h1, toks := t1 }) hk e1 r1 fun h2 t2 e2 => k .next .next _ _ h2 t2 e2 rfl h

/-- a tree that makes a list -/
def SN (C : Cx) (V : Vars) (M : Owns) (t : Sem Value) (l : List PV) : Prop :=
  C.Ok → ∀ (B : Bs) (s : Shared) (Q : Value → Shared → Prop) (E : Value → Shared → Prop), Est C B V M s.heap → 0 < s.toks →
    (∀ a vs n h' t', s.heap.get? a = none → h'.get? a = some (listObj vs n) → RepL C.w.params (C.look B M h') l vs → Keep s.heap h' → Q (.ref a) { s with heap := h', toks := t' }) → wpAny (model C.prog C.w) C.A t Q E s
theorem SN.sv {t : Sem Value} {l : List PV} (h : SN C V M t l) : SV C V M t (.list l) := fun ok B s Q E hE tk k =>
  h ok B s Q E hE tk fun a vs n h' t' e1 e2 r k1 => k _ h' t' k1 ⟨a, vs, n, rfl, vis_of e2 (hE.fresh e1), r⟩

theorem Est.add {B : Bs} {h : Heap} {a : Addr} {m : MO} (hE : Est C B V M h) (hn : a ∉ C.hid B M) (h0 : B.h₀.get? a = none) (hm : MRep C.w.params (C.look B M h) h a m)
    (hv : LookLe (C.look B M h) (C.look B ((a, m) :: M) h) ∨ ∃ h', Keep h' h ∧ h'.get? a = none ∧ Est C B V M h') (hmm : MRep C.w.params (C.look B ((a, m) :: M) h) h a m) : Est C B V ((a, m) :: M) h := by
  have hsub : ∀ h', h'.get? a = none → Keep h' h → LookLe (C.look B M h') (C.look B ((a, m) :: M) h) := fun h' e kp b o q => by
    obtain ⟨q1, q2⟩ := vis_get q
    refine vis_of (kp b o q1) fun z => ?_
    rcases List.mem_cons.mp (show b ∈ a :: (C.hid B M) from z) with z | z
    · subst z; rw [e] at q1; cases q1
    · exact q2 z
  have hloc : a ≠ C.env.locals := fun q => hn (by rw [q]; exact List.mem_append_right _ List.mem_cons_self)
  have fin : ∀ h', Est C B V M h' → Keep h' h → LookLe (C.look B M h') (C.look B ((a, m) :: M) h) → Est C B V ((a, m) :: M) h := fun h' x kp hl => {
    g := x.g
    keep := x.keep.trans kp
    liveX := fun b hb => let ⟨o, e⟩ := x.liveX b hb; ⟨o, kp b o e⟩
    newL := x.newL
    locC := x.locC
    cells := x.cells
    vars := by
      obtain ⟨m, cm, h1, h2, h3⟩ := x.vars
      refine ⟨m, cm, h1.keeps kp, fun n c e => (h2 n c e).keeps kp, fun y pv e => ?_⟩
      obtain ⟨v, r, q⟩ := h3 y pv e
      exact ⟨v, r.get hl, q⟩
    own := fun p hp => by
      rcases List.mem_cons.mp hp with q | q
      · subst q; exact ⟨hmm, h0, fun z => hn (List.mem_append_right _ z)⟩
      · exact ⟨(x.own p q).1.move hl fun o e => kp _ o e, (x.own p q).2⟩
    apart := List.nodup_cons.mpr ⟨fun z => hn (List.mem_append_left _ z), x.apart⟩ }
  rcases hv with hl | ⟨h', kp, e, x⟩
  · exact fin h hE .rfl hl
  · exact fin h' x kp (hsub h' e kp)

theorem Bs.none_of {B : Bs} {h : Heap} {a : Addr} (k : Keep B.h₀ h) (e : h.get? a = none) : B.h₀.get? a = none := by
  cases q : B.h₀.get? a with
  | none => rfl
  | some o => rw [k a o q] at e; cases e

theorem look_new {B : Bs} {h h' : Heap} {a : Addr} {m : MO} (e : h.get? a = none) (kp : Keep h h') : LookLe (C.look B M h) (C.look B ((a, m) :: M) h') := fun b o q => by
  obtain ⟨q1, q2⟩ := vis_get q
  refine vis_of (kp b o q1) fun z => ?_
  rcases List.mem_cons.mp (show b ∈ a :: (C.hid B M) from z) with z | z
  · subst z; rw [e] at q1; cases q1
  · exact q2 z

/-- an empty list, made to be filled -/
theorem EX1.newList {x : Str} {pos' pos lp : Pos} (hk : C.St x) (h : ∀ a, K .next ((x, .at a) :: V) ((a, .list []) :: M)) :
    EX1 C V M (.Assign [.Name x pos'] (.List [] lp) pos) K := fun ok B s Q E hE tk k => by
  refine wpAny_Assign_Name (wpAny_List (wpAny_items_nil ⟨Nat.zero_le _, ?_⟩)) rfl
  have e0 := get_size s.heap
  have kp : Keep s.heap (s.heap.push (listObj [] 0)) := Keep.rfl.push _
  have e1 : (s.heap.push (listObj [] 0)).get? s.heap.objs.size = some (listObj [] 0) := Heap.get?_push_size _ rfl
  have x := (hE.kept kp).add (a := s.heap.objs.size) (m := .list []) (hE.fresh e0) (Bs.none_of hE.keep e0) ⟨[], 0, e1, rfl⟩ (.inr ⟨s.heap, kp, e0, hE⟩) ⟨[], 0, e1, rfl⟩
  exact wp_store ok (s := { s with heap := s.heap.push (listObj [] 0), toks := s.toks }) hk x (pv := .at s.heap.objs.size) rfl fun h2 t2 e2 => k .next .next _ _ h2 t2 e2 rfl (h _)

theorem EX1.ret {e : Expr} {pos : Pos} {pv : PV} (hv : EV C V M e pv) (h : K (.ret pv) V M) : EX1 C V M (.Return (some e) pos) K := fun ok B s Q E hE tk k =>
  wpAny_Return_some (hv.then ok hE tk fun v h1 t1 k1 e1 p1 r1 => k (.ret pv) (.ret v) _ _ h1 t1 e1 ⟨v, rfl, r1.get (vis_sub fun _ q => List.mem_append_right _ q)⟩ h)
/-- an owned list handed out -/
theorem EX1.retOwn {e : Expr} {pos : Pos} {a : Addr} {l : List PV} (hv : EV C V M e (.at a)) (hm : (a, MO.list l) ∈ M) (h : K (.ret (.list l)) V M) : EX1 C V M (.Return (some e) pos) K := fun ok B s Q E hE tk k =>
  wpAny_Return_some (hv.then ok hE tk fun v h1 t1 k1 e1 p1 r1 => by
    cases r1
    obtain ⟨⟨vs, n, q, r⟩, _, q2⟩ := e1.own _ hm
    exact k (.ret (.list l)) (.ret (.ref a)) _ _ h1 t1 e1 ⟨_, rfl, a, vs, n, rfl, vis_of q q2, RepL.mono (vis_sub fun _ q => List.mem_append_right _ q) _ r⟩ h)
theorem EX1.ite {test : Expr} {body orelse : List Stmt} {pos : Pos} {b : Bool} (ht : ET C V M test b) (h1 : b = true → EX C V M body K) (h2 : b = false → EX C V M orelse K) : EX1 C V M (.If test body orelse pos) K := fun ok B s Q E hE tk k => by
  refine wpAny_If (ht.then ok hE tk fun h' t' kp e1 p1 => ?_)
  cases b
  · exact h2 rfl ok B { s with heap := h', toks := t' } Q E e1 p1 k
  · exact h1 rfl ok B { s with heap := h', toks := t' } Q E e1 p1 k
theorem EX1.brk {pos : Pos} (h : K .brk V M) : EX1 C V M (.Break pos) K := fun ok B s Q E hE tk k => wpAny_Break (k .brk .brk _ _ s.heap s.toks hE rfl h)
theorem EX1.assert {test : Expr} {msg : Option Expr} {pos : Pos} (ht : ET C V M test true) (h : K .next V M) : EX1 C V M (.Assert test msg pos) K := fun ok B s Q E hE tk k =>
  wpAny_Assert_holds (ht.then ok hE tk fun h' t' kp e1 _ => ⟨rfl, k .next .next _ _ h' t' e1 rfl h⟩)
theorem EX1.aug {x : Str} {e : Expr} {op : Operator} {p1 pos : Pos} {p q z : PV} (hk : C.env.kindOf x = some .local) (hx : V.lookup x = some p) (hv : EV C V M e q) (ho : Bi C V M (inplaceOp op) p q z) (h : K .next ((x, z) :: V) M) :
    EX1 C V M (.AugAssign (.Name x p1) op e pos) K := fun ok B s Q E hE tk k => by
  refine wpAny_AugAssign_Name ?_
  obtain ⟨m, cm, h1, h2, h3⟩ := hE.vars
  obtain ⟨v, r, z⟩ := h3 x p hx
  rcases z with ⟨_, z⟩ | ⟨z, _⟩
  · refine wpAny_loadName_local ok.fn hk h1 z (hv.then ok hE tk fun b h2 t2 k2 e2 p2 r2 => ?_)
    refine ho ok B v b { s with heap := h2, toks := t2 } _ E e2 p2 (r.get (vis_keep k2)) r2 fun c h3 t3 k3 r3 => ?_
    exact wp_store ok (s := { s with heap := h3, toks := t3 }) (.inl hk) (e2.kept k3) r3 fun h4 t4 e4 => k .next .next _ _ h4 t4 e4 rfl h
  · rw [hk] at z; rcases z with z | z <;> cases z

/-- expressions in a row -/
def EVs (C : Cx) (V : Vars) (M : Owns) : List Expr → List PV → Prop
  | [], ps => ps = []
  | e :: es, ps => ∃ p r, ps = p :: r ∧ EV C V M e p ∧ EVs C V M es r
theorem EVs.nil : EVs C V M [] [] := rfl
theorem EVs.cons {e : Expr} {es : List Expr} {p : PV} {ps : List PV} (h : EV C V M e p) (h2 : EVs C V M es ps) : EVs C V M (e :: es) (p :: ps) := ⟨p, ps, rfl, h, h2⟩
theorem EVs.len : ∀ {es : List Expr} {ps : List PV}, EVs C V M es ps → ps.length = es.length
  | [], _, h => by cases h; rfl
  | _ :: _, _, h => by obtain ⟨p, r, rfl, _, h2⟩ := h; simp [EVs.len h2]
theorem EVs.run : ∀ {es : List Expr} {ps : List PV}, EVs C V M es ps → ∀ {pos : Pos}, C.Ok → ∀ {B : Bs} {s : Shared} {Q : List Value → Shared → Prop} {E : Value → Shared → Prop}, Est C B V M s.heap → 0 < s.toks →
    (∀ vs h' t', Keep s.heap h' → Est C B V M h' → 0 < t' → RepL C.w.params (C.look B M h') ps vs → Q vs { s with heap := h', toks := t' }) →
    wpAny (model C.prog C.w) C.A (spliced (backTo pos (es.map fun e => (false, eval e C.env)))) Q E s
  | [], _, h, _, ok, B, s, Q, E, hE, tk, k => by cases h; exact Calls.spliced_nil (k [] s.heap s.toks .rfl hE tk rfl)
  | e :: es, _, h, pos, ok, B, s, Q, E, hE, tk, k => by
    obtain ⟨p, r, rfl, h1, h2⟩ := h
    refine Calls.spliced_cons (rest := backTo pos (es.map fun e => (false, eval e C.env))) (h1.then ok hE tk fun v h' t' kp e1 p1 r1 => ?_)
    exact h2.run ok (s := { s with heap := h', toks := t' }) e1 p1 fun vs h'' t'' kp2 e2 p2 r2 => k (v :: vs) h'' t'' (kp.trans kp2) e2 p2 ⟨v, vs, rfl, r1.get (vis_keep kp2), r2⟩
theorem EVs.args {es : List Expr} {ps : List PV} (h : EVs C V M es ps) {pos : Pos} {f : Value} (ok : C.Ok) {B : Bs} {s : Shared} {Q : Args → Shared → Prop} {E : Value → Shared → Prop} (hE : Est C B V M s.heap) (tk : 0 < s.toks)
    (k : ∀ vs h' t', Keep s.heap h' → Est C B V M h' → 0 < t' → RepL C.w.params (C.look B M h') ps vs → Q ⟨vs, []⟩ { s with heap := h', toks := t' }) :
    wpAny (model C.prog C.w) C.A (evalArgs f true (backTo pos (es.map fun e => (false, eval e C.env))) []) Q E s := by
  cases es with
  | nil => cases h; exact PySem.evalArgs_none (k [] s.heap s.toks .rfl hE tk rfl)
  | cons e es => exact Calls.evalArgs_plain (h.run (pos := pos) ok hE tk k)

theorem plain_any (pos : Pos) (es : List Expr) (env : Env) : (backTo pos (es.map fun e => (false, eval e env))).any (·.1) = false := by
  induction es with
  | nil => rfl
  | cons e es ih => exact ih

/-- what a built-in makes of values -/
def Bn (C : Cx) (V : Vars) (M : Owns) (id : String) (ps : List PV) (r : PV) : Prop :=
  C.Ok → ∀ (B : Bs) (vs : List Value) (s : Shared) (Q : Value → Shared → Prop) (E : Value → Shared → Prop), Est C B V M s.heap → 0 < s.toks → RepL C.w.params (C.look B M s.heap) ps vs →
    (∀ v h' t', Keep s.heap h' → Rep C.w.params (C.look B M h') r v → Q v { s with heap := h', toks := t' }) → wpAny (model C.prog C.w) C.A (call (.builtin id) vs) Q E s
theorem EV.callB {x : Str} {np pos : Pos} {es : List Expr} {ps : List PV} {id : String} {r : PV} (hf : EV C V M (.Name x np) (.val (.builtin id))) (hs : starEach es C.env = es.map fun e => (false, eval e C.env))
    (ha : EVs C V M es ps) (hb : Bn C V M id ps r) : EV C V M (.Call (.Name x np) es [] pos) r := fun ok B s Q E hE tk k => by
  refine wpAny_Call_NameR (hf.then ok hE tk fun v h1 t1 k1 e1 p1 r1 => ?_)
  cases r1
  rw [hs]
  refine Calls.callWith_builtin (plain_any _ _ _) (ha.args ok (s := { s with heap := h1, toks := t1 }) e1 p1 fun vs h2 t2 k2 e2 p2 r2 => ?_)
  exact hb ok B vs { s with heap := h2, toks := t2 } Q E e2 p2 r2 fun v h3 t3 k3 r3 => k v h3 t3 (k1.trans (k2.trans k3)) r3

structure Mth (T : String) (name : Str) (id : String) : Prop where
  pa : PlainAttrs T
  slot : Slot T name id
  ty : typeOf (.builtin id) = pure (.type "method_descriptor")
/-- the type of what stands for pv -/
def Ty (C : Cx) (M : Owns) (p : PV) (T : String) : Prop := ∀ (B : Bs) (V : Vars) (s : Shared) (v : Value), Est C B V M s.heap → Rep C.w.params (C.look B M s.heap) p v → s.TypeIs v T ∧ ∀ a, v = .ref a → ∃ ob, s.heap.get? a = some ob ∧ ob.dict = none
theorem Ty.str {x : Str} : Ty C M (.str x) "str" := fun B V s v hE r => by obtain ⟨t, rfl⟩ := r; exact ⟨typeIs_str _ _ _, fun _ e => nomatch e⟩
theorem Ty.list {l : List PV} : Ty C M (.list l) "list" := fun B V s v hE r => by
  obtain ⟨a, vs, n, rfl, e, _⟩ := r
  exact ⟨⟨_, (vis_get e).1, rfl⟩, fun b q => by cases q; exact ⟨_, (vis_get e).1, rfl⟩⟩
theorem Ty.dict {l : List (Str × PV)} : Ty C M (.dict l) "dict" := fun B V s v hE r => by
  obtain ⟨a, vs, n, rfl, _, e, _⟩ := r
  exact ⟨⟨_, (vis_get e).1, rfl⟩, fun b q => by cases q; exact ⟨_, (vis_get e).1, rfl⟩⟩
theorem Ty.own {a : Addr} {l : List PV} (hm : (a, MO.list l) ∈ M) : Ty C M (.at a) "list" := fun B V s v hE r => by
  cases r
  obtain ⟨⟨vs, n, q, _⟩, _⟩ := hE.own _ hm
  exact ⟨⟨_, q, rfl⟩, fun b z => by cases z; exact ⟨_, q, rfl⟩⟩
theorem EV.meth {o : Expr} {name : Str} {apos pos : Pos} {es : List Expr} {p : PV} {ps : List PV} {T id : String} {r : PV} (ho : EV C V M o p) (hs : starEach es C.env = es.map fun e => (false, eval e C.env)) (ha : EVs C V M es ps)
    (m : Mth T name id) (ht : Ty C M p T) (hb : Bn C V M id (p :: ps) r) (hbase : attributeBase o name C.env (eval o C.env) = eval o C.env) (hline : (apos.endLine == pos.line) = true) (hn : es.length < 20) :
    EV C V M (.Call (.Attribute o name apos) es [] pos) r := fun ok B s Q E hE tk k => by
  have hfew : ((backTo pos (starEach es C.env)).all (fun x => !x.1) && (backToKw pos (keywordEach [] C.env)).all (fun x => x.1.isSome) && decide (es.length + ([] : List Keyword).length + (if ([] : List Keyword).isEmpty then 0 else 1) < 30)) = true := by
    rw [hs]
    have h1 : (backTo pos (es.map fun e => (false, eval e C.env))).all (fun x => !x.1) = true := by
      clear hs ha hb ho hn
      induction es with
      | nil => rfl
      | cons e es ih => exact ih
    have h2 : decide (es.length + ([] : List Keyword).length + (if ([] : List Keyword).isEmpty then 0 else 1) < 30) = true := decide_eq_true (by simp; omega)
    rw [h1, h2]; rfl
  refine wpAny_Call_method_lateS hbase hfew hline (ho.then ok hE tk fun v h1 t1 k1 e1 p1 r1 => ?_)
  obtain ⟨hT, hd⟩ := ht B V { s with heap := h1, toks := t1 } v e1 r1
  refine ⟨T, id, m.pa, m.slot, m.ty, hT, hd, ?_⟩
  rw [hs]
  refine Calls.callWith_builtin (plain_any _ _ _) (ha.args ok (s := { s with heap := h1, toks := t1 }) e1 p1 fun vs h2 t2 k2 e2 p2 r2 => ?_)
  exact hb ok B (v :: vs) { s with heap := h2, toks := t2 } Q E e2 p2 ⟨v, vs, rfl, r1.get (vis_keep k2), r2⟩ fun v h3 t3 k3 r3 => k v h3 t3 (k1.trans (k2.trans k3)) r3

/-- an owned object put anew -/
theorem Est.upd {B : Bs} {h h' : Heap} {a : Addr} {m m' : MO} {M₁ M₂ : Owns} (hE : Est C B V (M₁ ++ (a, m) :: M₂) h) (hs : Heap.SameBut a h h') (hm : MRep C.w.params (C.look B (M₁ ++ (a, m) :: M₂) h') h' a m') : Est C B V (M₁ ++ (a, m') :: M₂) h' := by
  have hk : (M₁ ++ (a, m') :: M₂).map (·.1) = (M₁ ++ (a, m) :: M₂).map (·.1) := by simp
  have hh : ∀ B, C.hid B (M₁ ++ (a, m') :: M₂) = C.hid B (M₁ ++ (a, m) :: M₂) := fun B => by unfold Cx.hid; rw [hk]
  have hin : (a, m) ∈ M₁ ++ (a, m) :: M₂ := List.mem_append_right _ List.mem_cons_self
  obtain ⟨_, q0, q1⟩ := hE.own _ hin
  have hl : LookLe (C.look B (M₁ ++ (a, m) :: M₂) h) (C.look B (M₁ ++ (a, m') :: M₂) h') := by
    unfold Cx.look; rw [hh]
    exact vis_but (fun c o n e => hs.extBut c o n e) (List.mem_append_left _ (List.mem_map.mpr ⟨_, hin, rfl⟩))
  have hne : ∀ p ∈ M₁ ++ M₂, p.1 ≠ a := fun p hp q => by
    have ap := hE.apart
    rw [List.map_append, List.map_cons] at ap
    have ap2 := (List.nodup_append.mp ap)
    rcases List.mem_append.mp hp with z | z
    · exact ap2.2.2 p.1 (List.mem_map.mpr ⟨p, z, rfl⟩) a List.mem_cons_self q
    · exact (List.nodup_cons.mp ap2.2.1).1 (q ▸ List.mem_map.mpr ⟨p, z, rfl⟩)
  have hlive : ∃ o, h'.get? a = some o := hm.live
  exact {
    g := hE.g
    keep := fun b o e => hs.extBut b o (fun q => by subst q; rw [q0] at e; cases e) (hE.keep b o e)
    liveX := fun b hb => by
      obtain ⟨o, e⟩ := hE.liveX b hb
      exact ⟨o, hs.extBut b o (fun q => q1 (q ▸ hb)) e⟩
    newL := hE.newL
    locC := hE.locC
    cells := hE.cells
    vars := by
      obtain ⟨mm, cm, h1, h2, h3⟩ := hE.vars
      refine ⟨mm, cm, h1.sameBut hs (fun q => q1 (q ▸ List.mem_cons_self)), fun n c e => (h2 n c e).sameBut hs fun q => q1 ?_, fun y pv e => ?_⟩
      · exact q ▸ List.mem_cons_of_mem _ (List.mem_append_left _ (List.mem_map.mpr ⟨_, mem_of_lookup e, rfl⟩))
      · obtain ⟨v, r, q⟩ := h3 y pv e
        exact ⟨v, r.get hl, q⟩
    own := fun p hp => by
      rcases List.mem_append.mp hp with z | z
      · have hp' : p ∈ M₁ ++ (a, m) :: M₂ := List.mem_append_left _ z
        exact ⟨(hE.own p hp').1.move hl fun o e => hs.extBut _ _ (hne p (List.mem_append_left _ z)) e, (hE.own p hp').2⟩
      · rcases List.mem_cons.mp z with z | z
        · subst z
          refine ⟨hm.move (by unfold Cx.look; rw [hh]; exact .rfl) fun _ e => e, q0, q1⟩
        · have hp' : p ∈ M₁ ++ (a, m) :: M₂ := List.mem_append_right _ (List.mem_cons_of_mem _ z)
          exact ⟨(hE.own p hp').1.move hl fun o e => hs.extBut _ _ (hne p (List.mem_append_right _ z)) e, (hE.own p hp').2⟩
    apart := by rw [hk]; exact hE.apart }
theorem mth_append : Mth "list" "append" "list.append" := ⟨F.plainAttrs_list, slot_list_append, by exact F.type_list_append⟩
end
end Mine

/-! LayD -/
namespace Mine
open PySem PySem.W PySem.Calls PyProof.Rows
set_option Elab.async false
section
variable {C : Cx} {V : Vars} {M : Owns} {K : Cont}

def KeepBut (wr : List Addr) (h h' : Heap) : Prop := ∀ b o, b ∉ wr → h.get? b = some o → h'.get? b = some o

/-- what e hands a loop -/
def It (C : Cx) (V : Vars) (M : Owns) (e : Expr) (items : List PV) : Prop :=
  C.Ok → ∀ (B : Bs) (s : Shared) (Q : Value → Shared → Prop) (E : Value → Shared → Prop), Est C B V M s.heap → 0 < s.toks →
    (∀ I fp wr P St h' t', Keep s.heap h' → Walks C.prog C.w C.A I fp wr items.length P St → St 0 h' → (∀ b ∈ wr, s.heap.get? b = none) → (∀ i h, St i h → ∀ b ∈ wr, ∃ o, h.get? b = some o) →
      (∀ b ∈ fp, b ∈ wr ∨ ∃ o, vis h' (wr ++ C.hid B M) b = some o) → (∀ i p v, items[i]? = some p → P i v → Rep C.w.params (vis h' (wr ++ C.hid B M)) p v) → 0 < t' → Q (.ref I) { s with heap := h', toks := t' }) →
    wpAny (model C.prog C.w) C.A (eval e C.env) (fun x s₁ => wpAny (model C.prog C.w) C.A (pyIter x) Q E s₁) E s

theorem Est.rebaseW {B : Bs} {h h1 : Heap} {wr : List Addr} (x : Est C B V M h) (kp : Keep h h1) (hw : ∀ b ∈ wr, h.get? b = none) (hl : ∀ b ∈ wr, ∃ o, h1.get? b = some o) :
    Est C ⟨hideAll h1 (C.own M ++ wr), wr ++ B.X⟩ V M h1 := by
  have hnone : ∀ b ∈ wr, B.h₀.get? b = none := fun b hb => Bs.none_of x.keep (hw b hb)
  have hnh : ∀ b ∈ wr, b ∉ C.hid B M := fun b hb => x.fresh (hw b hb)
  have x1 := x.kept kp
  have hlook : LookLe (C.look B M h) (C.look ⟨hideAll h1 (C.own M ++ wr), wr ++ B.X⟩ M h1) := fun a o e => by
    obtain ⟨e1, n⟩ := vis_get e
    refine vis_of (kp a o e1) fun hm => ?_
    rcases List.mem_append.mp hm with q | q
    · exact n (List.mem_append_left _ q)
    · rcases List.mem_cons.mp q with q | q
      · exact n (List.mem_append_right _ (q ▸ List.mem_cons_self))
      · rcases List.mem_append.mp q with q | q
        · exact n (List.mem_append_right _ (List.mem_cons_of_mem _ (List.mem_append_left _ q)))
        · rcases List.mem_append.mp q with q | q
          · rw [hw a q] at e1; cases e1
          · exact n (List.mem_append_right _ (List.mem_cons_of_mem _ (List.mem_append_right _ q)))
  exact {
    g := x1.g.kept (x1.strip_keep wr hnone)
    keep := fun b o e => of_hideAll _ e
    liveX := fun a ha => by
      rcases List.mem_cons.mp ha with q | q
      · exact x1.liveX a (q ▸ List.mem_cons_self)
      · rcases List.mem_append.mp q with q | q
        · exact x1.liveX a (List.mem_cons_of_mem _ (List.mem_append_left _ q))
        · rcases List.mem_append.mp q with q | q
          · exact hl a q
          · exact x1.liveX a (List.mem_cons_of_mem _ (List.mem_append_right _ q))
    newL := hideAll_none _ (List.mem_append_left _ (List.mem_append_right _ List.mem_cons_self))
    locC := x.locC
    cells := fun w => ⟨fun p hp => hideAll_none _ (List.mem_append_left _ (List.mem_append_right _ (List.mem_cons_of_mem _ (by rw [if_pos w]; exact List.mem_map.mpr ⟨p, hp, rfl⟩)))), (x.cells w).2⟩
    vars := by
      obtain ⟨m, cm, h1', h2, h3⟩ := x.vars
      exact ⟨m, cm, h1'.keeps kp, fun n c e => (h2 n c e).keeps kp, fun y pv e => let ⟨v, r, q⟩ := h3 y pv e; ⟨v, r.get hlook, q⟩⟩
    own := fun p hp => by
      have hm : p.1 ∈ M.map (·.1) := List.mem_map.mpr ⟨p, hp, rfl⟩
      refine ⟨(x.own p hp).1.move hlook fun o e => kp _ o e, hideAll_none _ (List.mem_append_left _ (List.mem_append_left _ hm)), fun q => ?_⟩
      rcases List.mem_cons.mp q with q | q
      · exact (x.own p hp).2.2 (q ▸ List.mem_cons_self)
      · rcases List.mem_append.mp q with q | q
        · exact (x.own p hp).2.2 (List.mem_cons_of_mem _ (List.mem_append_left _ q))
        · rcases List.mem_append.mp q with q | q
          · exact hnh _ q (List.mem_append_left _ hm)
          · exact (x.own p hp).2.2 (List.mem_cons_of_mem _ (List.mem_append_right _ q))
    apart := x.apart }

/-- a step that touches unseen things alone -/
theorem Est.stepX {h₀ h h' : Heap} {wr X : List Addr} (x : Est C ⟨h₀, wr ++ X⟩ V M h) (kb : KeepBut wr h h') (hw : ∀ b ∈ wr, h₀.get? b = none) (hn : ∀ b ∈ wr, b ≠ C.env.locals ∧ ∀ p ∈ C.env.cells, b ≠ p.2) (hX : ∀ a ∈ X, a ∉ wr) : Est C ⟨h₀, X⟩ V M h' := by
  have hbw : ∀ b ∈ wr, b ∈ C.hb ⟨h₀, wr ++ X⟩ := fun b hb => List.mem_cons_of_mem _ (List.mem_append_right _ (List.mem_append_left _ hb))
  have hsub : ∀ a ∈ C.hb ⟨h₀, X⟩, a ∈ C.hb ⟨h₀, wr ++ X⟩ := Cx.hb_mono (B := ⟨h₀, wr ++ X⟩) (B' := ⟨h₀, X⟩) fun a ha => List.mem_append_right _ ha
  have hl : LookLe (C.look ⟨h₀, wr ++ X⟩ M h) (C.look ⟨h₀, X⟩ M h') := fun a o e => by
    obtain ⟨e1, n⟩ := vis_get e
    refine vis_of (kb a o (fun q => n (List.mem_append_right _ (hbw a q))) e1) fun q => n ?_
    rcases List.mem_append.mp q with q | q
    · exact List.mem_append_left _ q
    · exact List.mem_append_right _ (hsub a q)
  exact {
    g := x.g
    keep := fun b o e => kb b o (fun q => by have z := hw b q; have e' : h₀.get? b = some o := e; rw [z] at e'; cases e') (x.keep b o e)
    liveX := fun a ha => by
      obtain ⟨o, e⟩ := x.liveX a (hsub a ha)
      refine ⟨o, kb a o (fun q => ?_) e⟩
      rcases List.mem_cons.mp ha with z | z
      · exact (hn a q).1 z
      · rcases List.mem_append.mp z with z | z
        · obtain ⟨p, hp, rfl⟩ := List.mem_map.mp z
          exact (hn _ q).2 p hp rfl
        · exact hX a z q
    newL := x.newL
    locC := x.locC
    cells := x.cells
    vars := by
      obtain ⟨m, cm, ⟨o, es, ep, e1, e2⟩, h2, h3⟩ := x.vars
      refine ⟨m, cm, ⟨o, es, ep, kb _ _ (fun q => (hn _ q).1 rfl) e1, e2⟩, fun n c e => ?_, fun y pv e => let ⟨v, r, q⟩ := h3 y pv e; ⟨v, r.get hl, q⟩⟩
      obtain ⟨o', e3, e4⟩ := h2 n c e
      exact ⟨o', kb _ _ (fun q => (hn _ q).2 _ (mem_of_lookup e) rfl) e3, e4⟩
    own := fun p hp => ⟨(x.own p hp).1.move hl fun o e => kb _ o (fun q => (x.own p hp).2.2 (hbw _ q)) e, (x.own p hp).2.1, fun q => (x.own p hp).2.2 (hsub _ q)⟩
    apart := x.apart }
/-- the same, the unseen things still there -/
theorem Est.stepX' {h₀ h h' : Heap} {wr X : List Addr} (x : Est C ⟨h₀, wr ++ X⟩ V M h) (kb : KeepBut wr h h') (hw : ∀ b ∈ wr, h₀.get? b = none) (hn : ∀ b ∈ wr, b ≠ C.env.locals ∧ ∀ p ∈ C.env.cells, b ≠ p.2) (hX : ∀ a ∈ X, a ∉ wr)
    (hl : ∀ b ∈ wr, ∃ o, h'.get? b = some o) : Est C ⟨h₀, wr ++ X⟩ V M h' := by
  have hbw : ∀ b ∈ wr, b ∈ C.hb ⟨h₀, wr ++ X⟩ := fun b hb => List.mem_cons_of_mem _ (List.mem_append_right _ (List.mem_append_left _ hb))
  have y := x.stepX kb hw hn hX
  have hlk : LookLe (C.look ⟨h₀, wr ++ X⟩ M h) (C.look ⟨h₀, wr ++ X⟩ M h') := fun a o e => by
    obtain ⟨e1, n⟩ := vis_get e
    exact vis_of (kb a o (fun q => n (List.mem_append_right _ (hbw a q))) e1) n
  exact {
    g := x.g
    keep := y.keep
    liveX := fun a ha => by
      by_cases q : a ∈ wr
      · exact hl a q
      · obtain ⟨o, e⟩ := x.liveX a ha
        exact ⟨o, kb a o q e⟩
    newL := x.newL
    locC := x.locC
    cells := x.cells
    vars := by
      obtain ⟨m, cm, ⟨o, es, ep, e1, e2⟩, h2, h3⟩ := x.vars
      refine ⟨m, cm, ⟨o, es, ep, kb _ _ (fun q => (hn _ q).1 rfl) e1, e2⟩, fun n c e => ?_, fun y pv e => let ⟨v, r, q⟩ := h3 y pv e; ⟨v, r.get hlk, q⟩⟩
      obtain ⟨o', e3, e4⟩ := h2 n c e
      exact ⟨o', kb _ _ (fun q => (hn _ q).2 _ (mem_of_lookup e) rfl) e3, e4⟩
    own := fun p hp => ⟨(x.own p hp).1.move hlk fun o e => kb _ o (fun q => (x.own p hp).2.2 (hbw _ q)) e, (x.own p hp).2⟩
    apart := x.apart }

/-- a loop's end of a turn -/
abbrev Turned (K : Cont) (I : Vars → Owns → Prop) : Cont := fun fl V' M' => match fl with
  | .next => I V' M'
  | .cont => I V' M'
  | .brk => K .next V' M'
  | .ret q => K (.ret q) V' M'

theorem EX1.for {x : Str} {px pos : Pos} {iter : Expr} {body : List Stmt} {items : List PV} (I : List PV → Vars → Owns → Prop) (hx : C.env.kindOf x = some .local) (hi : It C V M iter items) (h0 : I [] V M)
    (turn : ∀ done p rest V' M', items = done ++ p :: rest → I done V' M' → EX C ((x, p) :: V') M' body (Turned K (I (done ++ [p]))))
    (fin : ∀ V' M', I items V' M' → K .next V' M') (hs : ∀ x, foldedSetIterable iter C.env x = pure x) : EX1 C V M (.For (.Name x px) iter body [] pos) K := fun ok B s Q E hE tk k => by
  refine wpAny_For (hi ok B s _ E hE tk fun It fp wr P St h1 t1 k1 W st0 hwf hlv hfp hP p1 => ?_) hs
  have hnh : ∀ b ∈ wr, b ∉ C.hid B M := fun b hb => hE.fresh (hwf b hb)
  have hwn : ∀ b ∈ wr, b ≠ C.env.locals ∧ ∀ p ∈ C.env.cells, b ≠ p.2 := fun b hb =>
    ⟨fun q => hnh b hb (List.mem_append_right _ (q ▸ List.mem_cons_self)), fun p hp q => hnh b hb (List.mem_append_right _ (List.mem_cons_of_mem _ (List.mem_append_left _ (q ▸ List.mem_map.mpr ⟨p, hp, rfl⟩))))⟩
  have hXw : ∀ a ∈ B.X, a ∉ wr := fun a ha hb => hnh a hb (List.mem_append_right _ (List.mem_cons_of_mem _ (List.mem_append_right _ ha)))
  have hbase : ∀ b ∈ wr, (hideAll h1 (C.own M ++ wr)).get? b = none := fun b hb => hideAll_none _ (List.mem_append_right _ hb)
  have E1 := hE.rebaseW k1 hwf (hlv 0 h1 st0)
  have kback : Keep B.h₀ (hideAll h1 (C.own M ++ wr)) := (hE.kept k1).strip_keep wr fun b hb => Bs.none_of hE.keep (hwf b hb)
  -- what is seen at the start is in the base
  have seen : LookLe (vis h1 (wr ++ C.hid B M)) (vis (hideAll h1 (C.own M ++ wr)) (C.hb ⟨hideAll h1 (C.own M ++ wr), wr ++ B.X⟩)) := fun a o e => by
    obtain ⟨e1, n⟩ := vis_get e
    have nw : a ∉ wr := fun q => n (List.mem_append_left _ q)
    have nh : a ∉ C.hid B M := fun q => n (List.mem_append_right _ q)
    refine vis_of (hideAll_get _ e1 fun hm => ?_) fun hm => ?_
    · rcases List.mem_append.mp hm with q | q
      · rcases List.mem_append.mp q with q | q
        · exact nh (List.mem_append_left _ q)
        · rcases List.mem_cons.mp q with q | q
          · exact nh (List.mem_append_right _ (q ▸ List.mem_cons_self))
          · split at q
            · exact nh (List.mem_append_right _ (List.mem_cons_of_mem _ (List.mem_append_left _ q)))
            · cases q
      · exact nw q
    · rcases List.mem_cons.mp hm with q | q
      · exact nh (List.mem_append_right _ (q ▸ List.mem_cons_self))
      · rcases List.mem_append.mp q with q | q
        · exact nh (List.mem_append_right _ (List.mem_cons_of_mem _ (List.mem_append_left _ q)))
        · rcases List.mem_append.mp q with q | q
          · exact nw q
          · exact nh (List.mem_append_right _ (List.mem_cons_of_mem _ (List.mem_append_right _ q)))
  refine codeAny_forLoop (I := fun n s' => ∃ done rest V' M' h' t', items = done ++ rest ∧ n = rest.length ∧ s' = { s with heap := h', toks := t' } ∧ I done V' M' ∧
    Est C ⟨hideAll h1 (C.own M ++ wr), wr ++ B.X⟩ V' M' h' ∧ 0 < t' ∧ St done.length h') ?_ items.length ⟨[], items, V, M, h1, t1, rfl, rfl, rfl, h0, E1, p1, st0⟩ (fun _ => rfl)
  rintro n s' ⟨done, rest, V', M', h', t', hit, rfl, rfl, hI, e1, pt, st⟩
  cases rest with
  | nil =>
    rw [List.append_nil] at hit; subst hit
    refine wpAny_tk (s := { s with heap := h', toks := t' }) pt (W.done _ _ _ st fun h'' t'' kb pt2 => ?_)
    refine wpAny_execs_nil ?_
    have e2 := (e1.stepX kb hbase hwn hXw).weaken kback hE.g
    exact k .next .next V' M' h'' t'' e2 rfl (fin V' M' hI)
  | cons p rest =>
    refine wpAny_tk (s := { s with heap := h', toks := t' }) pt (W.item done.length _ _ _ (by rw [hit]; simp) st fun v h'' t'' hp st' kb pt2 => ?_)
    have e2 := e1.stepX' kb hbase hwn hXw (hlv _ _ st')
    have r : Rep C.w.params (C.look ⟨hideAll h1 (C.own M ++ wr), wr ++ B.X⟩ M' h'') p v :=
      (hP done.length p v (by rw [hit]; simp) hp).get (seen.trans e2.base_look)
    have e3 := e2.rebase
    refine wpAny_assign_Name (wpAny_tk (s := { s with heap := h'', toks := t'' }) pt2 (wp_store ok (s := { s with heap := h'', toks := t'' }) (.inl hx) e3 r fun h3 t3 e4 pt3 => ?_))
    refine (turn done p rest V' M' hit hI).then ok (s := { s with heap := h3, toks := t3 }) e4 pt3 fun fl f V'' M'' h4 t4 e5 pt4 rf hK => ?_
    have e6 : Est C ⟨hideAll h1 (C.own M ++ wr), wr ++ B.X⟩ V'' M'' h4 := e2.back e5
    have st4 : St (done ++ [p]).length h4 := by
      rw [List.length_append]
      refine W.frame _ h'' h4 st' fun b hb o e => e5.keep b o (hideAll_get _ e fun hm => ?_)
      have hnb : b ≠ C.env.locals ∧ (∀ p ∈ C.env.cells, b ≠ p.2) ∧ ∀ q ∈ M', q.1 ≠ b := by
        rcases hfp b hb with hbw | ⟨o', q'⟩
        · refine ⟨(hwn b hbw).1, (hwn b hbw).2, fun q hq z => (e2.own q hq).2.2 (z ▸ ?_)⟩
          exact List.mem_cons_of_mem _ (List.mem_append_right _ (List.mem_append_left _ hbw))
        · obtain ⟨z1, z2⟩ := vis_get (seen _ _ q')
          refine ⟨fun z => z2 (z ▸ List.mem_cons_self), fun p hp z => z2 (List.mem_cons_of_mem _ (List.mem_append_left _ (z ▸ List.mem_map.mpr ⟨p, hp, rfl⟩))), fun q hq z => ?_⟩
          have := (e2.own q hq).2.1
          rw [z] at this
          have z1' : (hideAll h1 (C.own M ++ wr)).get? b = some o' := z1
          rw [z1'] at this; cases this
      rcases List.mem_append.mp hm with q | q
      · obtain ⟨p, hp, z⟩ := List.mem_map.mp q
        exact hnb.2.2 p hp z
      · rcases List.mem_cons.mp q with q | q
        · exact hnb.1 q
        · split at q
          · obtain ⟨p, hp, z⟩ := List.mem_map.mp q
            exact hnb.2.1 p hp z.symm
          · cases q
    have hit' : items = (done ++ [p]) ++ rest := by rw [hit]; simp
    cases fl with
    | next => cases rf; exact ⟨_, Nat.lt_succ_self _, done ++ [p], rest, V'', M'', h4, t4, hit', rfl, rfl, hK, e6, pt4, st4⟩
    | cont => cases rf; exact ⟨_, Nat.lt_succ_self _, done ++ [p], rest, V'', M'', h4, t4, hit', rfl, rfl, hK, e6, pt4, st4⟩
    | brk => cases rf; exact k .next .next V'' M'' h4 t4 ((e6.seeX fun a ha => List.mem_append_right _ ha).weaken kback hE.g) rfl hK
    | ret q =>
      obtain ⟨v', rfl, r'⟩ := rf
      exact k (.ret q) (.ret v') V'' M'' h4 t4 ((e6.seeX fun a ha => List.mem_append_right _ ha).weaken kback hE.g)
        ⟨v', rfl, r'.get (vis_sub (Cx.hb_mono fun a ha => List.mem_append_right _ ha))⟩ hK

theorem EX1.while {test : Expr} {body : List Stmt} {pos : Pos} (I : Nat → Vars → Owns → Prop) (n : Nat) (h0 : I n V M)
    (turn : ∀ n V' M', I n V' M' → ∃ b, ET C V' M' test b ∧ (b = true → EX C V' M' body (Turned K fun V'' M'' => ∃ m, m < n ∧ I m V'' M'')) ∧ (b = false → K .next V' M')) : EX1 C V M (.While test body [] pos) K := fun ok B s Q E hE tk k => by
  refine wpAny_While (codeAny_whileLoop (I := fun n s' => ∃ V' M' h' t', s' = { s with heap := h', toks := t' } ∧ I n V' M' ∧ Est C B V' M' h' ∧ 0 < t') ?_ n ⟨V, M, s.heap, s.toks, rfl, h0, hE, tk⟩)
  rintro n s' ⟨V', M', h', t', rfl, hI, e1, pt⟩
  obtain ⟨b, ht, hb, hf⟩ := turn n V' M' hI
  refine ht.then ok (s := { s with heap := h', toks := t' }) e1 pt fun h2 t2 k2 e2 p2 => ?_
  cases b with
  | false => exact wpAny_execs_nil (k .next .next V' M' h2 t2 e2 rfl (hf rfl))
  | true =>
    refine (hb rfl).then ok (s := { s with heap := h2, toks := t2 }) e2 p2 fun fl f V'' M'' h3 t3 e3 p3 rf hK => ?_
    cases fl with
    | next => cases rf; obtain ⟨m, hm, hI'⟩ := hK; exact ⟨m, hm, V'', M'', h3, t3, rfl, hI', e3, p3⟩
    | cont => cases rf; obtain ⟨m, hm, hI'⟩ := hK; exact ⟨m, hm, V'', M'', h3, t3, rfl, hI', e3, p3⟩
    | brk => cases rf; exact k .next .next V'' M'' h3 t3 e3 rfl hK
    | ret q => obtain ⟨v', rfl, r'⟩ := rf; exact k (.ret q) (.ret v') V'' M'' h3 t3 e3 ⟨v', rfl, r'⟩ hK

/-- the frame told otherwise: names forgotten, owned lists given up -/
theorem XT.tell {t : Sem Flow} {V' : Vars} {M' : Owns} (h : XT C V' M' t K) (hs : ∀ B h, Est C B V M h → Est C B V' M' h) : XT C V M t K := fun ok B s Q E hE tk k => h ok B s Q E (hs B _ hE) tk k
theorem Est.names {B : Bs} {h : Heap} {V' : Vars} (x : Est C B V M h) (hs : ∀ y p, V'.lookup y = some p → V.lookup y = some p) : Est C B V' M h :=
  { x with vars := let ⟨m, cm, h1, h2, h3⟩ := x.vars; ⟨m, cm, h1, h2, fun y p e => h3 y p (hs y p e)⟩ }
theorem XT.names {t : Sem Flow} {V' : Vars} (h : XT C V' M t K) (hs : ∀ y p, V'.lookup y = some p → V.lookup y = some p) : XT C V M t K := h.tell fun _ _ x => x.names hs
theorem Est.giveUp {B : Bs} {h : Heap} {V' : Vars} {M₁ M₂ : Owns} {a : Addr} {l : List PV} (x : Est C B V (M₁ ++ (a, .list l) :: M₂) h)
    (hs : ∀ y p, V'.lookup y = some p → V.lookup y = some p ∨ (V.lookup y = some (.at a) ∧ p = .list l) ∨ ∃ C', V.lookup y = some (.inst C' (.at a)) ∧ p = .inst C' (.list l)) : Est C B V' (M₁ ++ M₂) h := by
  have hsub : ∀ q ∈ M₁ ++ M₂, q ∈ M₁ ++ (a, MO.list l) :: M₂ := fun q hq => by
    rcases List.mem_append.mp hq with z | z
    · exact List.mem_append_left _ z
    · exact List.mem_append_right _ (List.mem_cons_of_mem _ z)
  have hl : LookLe (C.look B (M₁ ++ (a, .list l) :: M₂) h) (C.look B (M₁ ++ M₂) h) := vis_sub fun b hb => by
    rcases List.mem_append.mp hb with z | z
    · obtain ⟨p, hp, rfl⟩ := List.mem_map.mp z
      exact List.mem_append_left _ (List.mem_map.mpr ⟨p, hsub p hp, rfl⟩)
    · exact List.mem_append_right _ z
  have hin : (a, MO.list l) ∈ M₁ ++ (a, MO.list l) :: M₂ := List.mem_append_right _ List.mem_cons_self
  obtain ⟨⟨vs, n, e, r⟩, _, q1⟩ := x.own _ hin
  have ap := x.apart
  rw [List.map_append, List.map_cons] at ap
  have ap2 := List.nodup_append.mp ap
  have hna : a ∉ C.hid B (M₁ ++ M₂) := fun z => by
    rcases List.mem_append.mp z with z | z
    · obtain ⟨p, hp, rfl⟩ := List.mem_map.mp z
      rcases List.mem_append.mp hp with z | z
      · exact ap2.2.2 p.1 (List.mem_map.mpr ⟨p, z, rfl⟩) p.1 List.mem_cons_self rfl
      · exact (List.nodup_cons.mp ap2.2.1).1 (List.mem_map.mpr ⟨p, z, rfl⟩)
    · exact q1 z
  exact {
    g := x.g
    keep := x.keep
    liveX := x.liveX
    newL := x.newL
    locC := x.locC
    cells := x.cells
    vars := by
      obtain ⟨m, cm, h1, h2, h3⟩ := x.vars
      refine ⟨m, cm, h1, h2, fun y p e' => ?_⟩
      rcases hs y p e' with z | ⟨z, rfl⟩ | ⟨C', z, rfl⟩
      · obtain ⟨v, r', q⟩ := h3 y p z; exact ⟨v, r'.get hl, q⟩
      · obtain ⟨v, r', q⟩ := h3 y _ z
        cases r'
        exact ⟨_, ⟨a, vs, n, rfl, vis_of e hna, RepL.mono hl _ r⟩, q⟩
      · obtain ⟨v, ⟨ix, dx, m', t, u, rfl, g1, g2, g3⟩, q⟩ := h3 y _ z
        cases g3
        exact ⟨_, ⟨ix, dx, m', t, _, rfl, hl _ _ g1, hl _ _ g2, a, vs, n, rfl, vis_of e hna, RepL.mono hl _ r⟩, q⟩
    own := fun p hp => ⟨(x.own p (hsub p hp)).1.move hl fun _ e => e, (x.own p (hsub p hp)).2⟩
    apart := by
      rw [List.map_append]
      exact List.nodup_append.mpr ⟨ap2.1, (List.nodup_cons.mp ap2.2.1).2, fun b hb c hc => ap2.2.2 b hb c (List.mem_cons_of_mem _ hc)⟩ }
theorem XT.giveUp {t : Sem Flow} {V' : Vars} {M₁ M₂ : Owns} {a : Addr} {l : List PV} (h : XT C V' (M₁ ++ M₂) t K)
    (hs : ∀ y p, V'.lookup y = some p → V.lookup y = some p ∨ (V.lookup y = some (.at a) ∧ p = .list l) ∨ ∃ C', V.lookup y = some (.inst C' (.at a)) ∧ p = .inst C' (.list l)) : XT C V (M₁ ++ (a, .list l) :: M₂) t K := h.tell fun _ _ x => x.giveUp hs
end
end Mine

/-! LayE -/
namespace Mine
open PySem PySem.W PySem.Calls PyProof.Rows
set_option Elab.async false
section
variable {C : Cx} {V : Vars} {M : Owns} {K : Cont}

theorem vis_two {h : Heap} {X Y : List Addr} {a : Addr} {o : Obj} (e : vis h X a = some o) (n : a ∉ Y) : vis h (Y ++ X) a = some o := by
  obtain ⟨e1, e2⟩ := vis_get e
  exact vis_of e1 fun q => (List.mem_append.mp q).elim n e2

theorem It.list {e : Expr} {l : List PV} (h : EV C V M e (.list l)) : It C V M e l := fun ok B s Q E hE tk k => by
  refine h.then ok hE tk fun v h1 t1 k1 e1 p1 r1 => ?_
  obtain ⟨a, vs, n, rfl, ha, hr⟩ := r1
  obtain ⟨ha1, ha2⟩ := vis_get ha
  refine wpAny_pyIter_list ⟨_, ha1, rfl, n, rfl⟩ ?_
  have e0 := get_size h1
  have hne : a ≠ h1.objs.size := fun q => by rw [q, e0] at ha1; cases ha1
  have kp : Keep h1 (h1.push { cls := .type "list_iterator", data := .fields #[.ref a, .int 0 0] }) := Keep.rfl.push _
  have hlen : vs.toArray.size = l.length := by rw [List.size_toArray]; exact hr.len
  refine k h1.objs.size [h1.objs.size, a] [h1.objs.size] _ _ _ t1 (k1.trans kp) (hlen ▸ Walks.list ok.hh h1.objs.size a hne vs.toArray) ⟨⟨_, Heap.get?_push_size _ rfl, rfl, rfl⟩, ⟨_, kp _ _ ha1, rfl, n, rfl⟩⟩ ?_ ?_ ?_ ?_ p1
  · intro b hb; rw [List.mem_singleton.mp hb]
    cases q : s.heap.get? h1.objs.size with
    | none => rfl
    | some o => rw [k1 _ _ q] at e0; cases e0
  · rintro i h ⟨⟨o, ho, _⟩, _⟩ b hb; rw [List.mem_singleton.mp hb]; exact ⟨o, ho⟩
  · intro b hb
    rcases List.mem_cons.mp hb with q | q
    · exact .inl (by rw [q]; exact List.mem_singleton.mpr rfl)
    · rw [List.mem_singleton.mp q]
      exact .inr ⟨_, vis_two (vis_keep kp _ _ ha) fun z => hne (List.mem_singleton.mp z)⟩
  · intro i p v hp hv
    obtain ⟨v', hv', r⟩ := hr.get hp
    have : v = v' := by
      have hv2 : vs[i]? = some v := by simpa using hv
      rw [hv'] at hv2; cases hv2; rfl
    subst this
    refine r.get fun b o q => ?_
    obtain ⟨q1, q2⟩ := vis_get q
    exact vis_two (vis_of (kp _ _ q1) q2) fun z => by
      rw [List.mem_singleton.mp z, e0] at q1; cases q1

theorem It.sign {x : Str} {h h1 : Heap} {t : Tok} {X : List Addr} (i : Nat) (p : PV) (v : Value) (hp : (x.cps.toList.map fun c => PV.str ⟨#[c]⟩)[i]? = some p) (hv : SignAt x i v) {P : Params} {L : Look} : Rep P L p v := by
  obtain ⟨c, u, hc, rfl⟩ := hv
  rw [List.getElem?_map, Array.getElem?_toList, hc] at hp
  cases hp
  exact ⟨u, rfl⟩
theorem It.str {e : Expr} {x : Str} (h : EV C V M e (.str x)) : It C V M e (x.cps.toList.map fun c => .str ⟨#[c]⟩) := fun ok B s Q E hE tk k => by
  refine h.then ok hE tk fun v h1 t1 k1 e1 p1 r1 => ?_
  obtain ⟨t, rfl⟩ := r1
  have e0 := get_size h1
  have hlen : x.cps.size = (x.cps.toList.map fun c => PV.str ⟨#[c]⟩).length := by simp
  have hfr : ∀ b ∈ [h1.objs.size], s.heap.get? b = none := by
    intro b hb; rw [List.mem_singleton.mp hb]
    cases q : s.heap.get? h1.objs.size with
    | none => rfl
    | some o => rw [k1 _ _ q] at e0; cases e0
  cases ha : x.cps.all (· < 128) with
  | false =>
    refine wpAny_pyIter_wide ha ?_
    refine k h1.objs.size [h1.objs.size] [h1.objs.size] _ _ _ t1 (k1.trans (Keep.rfl.push _)) (hlen ▸ Walks.strWide ok.hh h1.objs.size x t) ⟨_, Heap.get?_push_size _ rfl, rfl, rfl⟩ hfr ?_ (fun b hb => .inl hb) ?_ p1
    · rintro i h ⟨o, ho, _⟩ b hb; rw [List.mem_singleton.mp hb]; exact ⟨o, ho⟩
    · intro i p v hp hv; exact It.sign (h := h1) (h1 := h1) (t := t) (X := []) i p v hp hv
  | true =>
    refine wpAny_pyIter_ascii ha ?_
    refine k h1.objs.size [h1.objs.size] [h1.objs.size] _ _ _ t1 (k1.trans (Keep.rfl.push _)) (hlen ▸ Walks.strAscii ok.hh h1.objs.size x t) ⟨_, Heap.get?_push_size _ rfl, rfl, rfl⟩ hfr ?_ (fun b hb => .inl hb) ?_ p1
    · rintro i h ⟨o, ho, _⟩ b hb; rw [List.mem_singleton.mp hb]; exact ⟨o, ho⟩
    · intro i p v hp hv; exact It.sign (h := h1) (h1 := h1) (t := t) (X := []) i p v hp hv

def upFrom (a : Int) (n : Nat) : List PV := (List.range n).map fun (i : Nat) => PV.int (a + i)
theorem upFrom_get {a : Int} {n i : Nat} {p : PV} (h : (upFrom a n)[i]? = some p) : p = .int (a + i) := by
  unfold upFrom at h
  rw [List.getElem?_map] at h
  by_cases q : i < n
  · rw [List.getElem?_range q] at h; cases h; rfl
  · rw [List.getElem?_eq_none (by simp; omega)] at h; cases h
theorem upFrom_len {a : Int} {n : Nat} : (upFrom a n).length = n := by simp [upFrom]
theorem range_walk {C : Cx} {M : Owns} {s : Shared} {h1 : Heap} {a b : Int} {t u v : Tok} {R : Obj} {B : Bs} {Q : Value → Shared → Prop} {E : Value → Shared → Prop} {t1 : Nat} (ok : C.Ok) (pt : 0 < t1) (k1 : Keep s.heap h1) (hsm : Builtin.Range.small a b 1 = true) (hr : R = { cls := .type "range", data := .fields #[.int a t, .int b u, .int 1 v] })
    (k : ∀ I fp wr P St h' t', Keep s.heap h' → Walks C.prog C.w C.A I fp wr (upFrom a (Builtin.Range.rangeSize a b 1).toNat).length P St → St 0 h' → (∀ b ∈ wr, s.heap.get? b = none) → (∀ i h, St i h → ∀ b ∈ wr, ∃ o, h.get? b = some o) →
      (∀ b ∈ fp, b ∈ wr ∨ ∃ o, vis h' (wr ++ C.hid B M) b = some o) → (∀ i p v, (upFrom a (Builtin.Range.rangeSize a b 1).toNat)[i]? = some p → P i v → Rep C.w.params (vis h' (wr ++ C.hid B M)) p v) → 0 < t' → Q (.ref I) { s with heap := h', toks := t' }) :
    wpAny (model C.prog C.w) C.A (pyIter (.ref h1.objs.size)) Q E { s with heap := h1.push R, toks := t1 } := by
  subst hr
  have hge : 0 ≤ Builtin.Range.rangeSize a b 1 := by rw [rangeSize_one]; split <;> omega
  refine wpAny_pyIter_range (IsRange.new h1 a b 1 t u v) hsm ?_
  have kp : Keep s.heap ((h1.push { cls := .type "range", data := .fields #[.int a t, .int b u, .int 1 v] }).push { cls := .type "range_iterator", data := .fields #[rawInt a, rawInt (Builtin.Range.rangeSize a b 1), rawInt 1] }) := (k1.push _).push _
  refine k _ [_] [_] _ _ _ t1 kp (by rw [upFrom_len]; exact Walks.range ok.hh _ a 1 _) ?_ ?_ ?_ (fun b hb => .inl hb) ?_ pt
  · rw [IsRangeIter]
    refine (Heap.get?_push_size _ rfl).trans ?_
    simp [rawInt, Int.toNat_of_nonneg hge]
  · intro c hc; rw [List.mem_singleton.mp hc]
    cases q : s.heap.get? (h1.push { cls := .type "range", data := .fields #[.int a t, .int b u, .int 1 v] }).objs.size with
    | none => rfl
    | some o => have e1 := (k1.push { cls := .type "range", data := .fields #[.int a t, .int b u, .int 1 v] }) _ _ q; rw [get_size] at e1; cases e1
  · intro i h hi c hc; rw [List.mem_singleton.mp hc]; exact ⟨_, hi⟩
  · intro i p v hp hv
    obtain ⟨tt, rfl⟩ := hv
    rw [upFrom_get hp]
    exact ⟨tt, by rw [Int.mul_one]⟩
theorem It.range1 {np rp : Pos} {e : Expr} {n : Int} (hf : EV C V M (.Name (Str.ofString "range") np) (.val (.type "range"))) (h : EV C V M e (.int n)) (hs : starEach [e] C.env = [(false, eval e C.env)]) (h0 : 0 ≤ n) (hn : n < 2 ^ 62) :
    It C V M (.Call (.Name (Str.ofString "range") np) [e] [] rp) (upFrom 0 n.toNat) := fun ok B s Q E hE tk k => by
  refine wpAny_Call_NameR (hf.then ok hE tk fun v h1 t1 k1 e1 p1 r1 => ?_)
  cases r1
  rw [hs]
  refine PySem.callWith_type1 (h.then ok (s := { s with heap := h1, toks := t1 }) e1 p1 fun v h2 t2 k2 e2 p2 r2 => ?_)
  obtain ⟨t, rfl⟩ := r2
  refine call_range_1 ?_
  have hsz : (Builtin.Range.rangeSize 0 n 1).toNat = n.toNat := by rw [rangeSize_one]; split <;> omega
  refine range_walk (s := s) (B := B) (M := M) ok (Nat.succ_pos _) (k1.trans k2) (small_one (by omega) (by omega) (by omega) hn) rfl ?_
  rw [hsz]; exact k
theorem It.range2 {np rp : Pos} {e e' : Expr} {a n : Int} (hf : EV C V M (.Name (Str.ofString "range") np) (.val (.type "range"))) (h : EV C V M e (.int a)) (h' : EV C V M e' (.int n)) (hs : starEach [e, e'] C.env = [(false, eval e C.env), (false, eval e' C.env)]) (h0 : 0 ≤ a) (h1 : a ≤ n) (hn : n < 2 ^ 62) :
    It C V M (.Call (.Name (Str.ofString "range") np) [e, e'] [] rp) (upFrom a (n - a).toNat) := fun ok B s Q E hE tk k => by
  refine wpAny_Call_NameR (hf.then ok hE tk fun v h1 t1 k1 e1 p1 r1 => ?_)
  cases r1
  rw [hs]
  refine PySem.callWith_type rfl (Calls.evalArgs_plain (Calls.spliced_cons (h.then ok (s := { s with heap := h1, toks := t1 }) e1 p1 fun v h2 t2 k2 e2 p2 r2 => ?_)))
  refine Calls.spliced_cons (h'.then ok (s := { s with heap := h2, toks := t2 }) e2 p2 fun v' h3 t3 k3 e3 p3 r3 => Calls.spliced_nil ?_)
  obtain ⟨t, rfl⟩ := r2
  obtain ⟨t', rfl⟩ := r3
  refine call_range_2 ?_
  have hsz : (Builtin.Range.rangeSize a n 1).toNat = (n - a).toNat := by rw [rangeSize_one]; split <;> omega
  refine range_walk (s := s) (B := B) (M := M) ok (Nat.succ_pos _) (k1.trans (k2.trans k3)) (small_one (by omega) (by omega) (by omega) hn) rfl ?_
  rw [hsz]; exact k

/-- a def of the text answers r to ps -/
def FnOk (prog : Program) (w : World) (mg mb : Str → Option Value) (K : List (Addr × Obj)) (f : Addr) (ps : List PV) (kw : List (Str × Value)) (r : PV) (d : Nat) : Prop :=
  ∀ (A : Around) (X : List Addr) (vs : List Value) (s : Shared) (R : Result → Shared → Prop), A.handled = none → A.units + 4 * d + 20 < cLine → A.depth + d + 5 < recursionLimit → Grd w.params mg mb K s.heap → 0 < s.toks →
    (∀ a ∈ X, ∃ o, s.heap.get? a = some o) → RepL w.params (vis s.heap X) ps vs → (∀ v h' t', Keep s.heap h' → Rep w.params (vis h' X) r v → R (.ok (.ret v)) { s with heap := h', toks := t' }) →
    codeAny (model prog w) A (.call (.ref f) ⟨vs, kw⟩) R s
def IsDef (K : List (Addr × Obj)) (f : Addr) (fd : FuncData) : Prop :=
  ∃ o, (f, o) ∈ K ∧ o.data = .func fd ∧ fd.closure = [] ∧ fd.globals = mainGlobals ∧ fd.builtins = builtinsNs ∧ fd.scope.kind = .function ∧ fd.scope.isGenerator = false ∧ fd.scope.isCoroutine = false ∧
    ∃ c oc vs t, fd.code = .ref c ∧ (c, oc) ∈ K ∧ oc.data = .fields vs ∧ vs[1]? = some (.str fd.qualname t)

theorem lookup_zip_mem {ps : List PV} {vs : List Value} {P : Params} {L : Look} : ∀ {names : List Str} {ps : List PV} {vs : List Value}, RepL P L ps vs → ps.length = names.length → ∀ x pv, (names.zip ps).lookup x = some pv → ∃ v, (x, v) ∈ names.zip vs ∧ Rep P L pv v
  | [], _, _, _, _, _, _, e => by simp at e
  | n :: names, [], _, _, hl, _, _, _ => by simp at hl
  | n :: names, p :: ps, _, h, hl, x, pv, e => by
    obtain ⟨v, r, rfl, h1, h2⟩ := h
    rw [List.zip_cons_cons, lookup_cons_of] at e
    by_cases q : x = n
    · subst q
      rw [if_pos rfl] at e; cases e
      exact ⟨v, List.mem_cons_self, h1⟩
    · rw [if_neg q] at e
      obtain ⟨v', hm, r'⟩ := lookup_zip_mem (ps := ps) (vs := r) h2 (by simpa using hl) x pv e
      exact ⟨v', List.mem_cons_of_mem _ hm, r'⟩
theorem bindL_keep {k : Str → Option NameKind} : ∀ {binds : List (Str × Value)} {m : Str → Option Value} {x : Str}, (∀ p ∈ binds, p.1 ≠ x) → bindL k binds m x = m x
  | [], _, _, _ => rfl
  | (n, v) :: r, m, x, h => by
    unfold bindL
    rw [bindL_keep fun p hp => h p (List.mem_cons_of_mem _ hp)]
    have := h (n, v) List.mem_cons_self
    split
    · simp [Ne.symm this]
    · rfl
theorem bindC_keep {k : Str → Option NameKind} : ∀ {binds : List (Str × Value)} {m : Str → Option Value} {x : Str}, (∀ p ∈ binds, p.1 ≠ x) → bindC k binds m x = m x
  | [], _, _, _ => rfl
  | (n, v) :: r, m, x, h => by
    unfold bindC
    rw [bindC_keep fun p hp => h p (List.mem_cons_of_mem _ hp)]
    have := h (n, v) List.mem_cons_self
    split
    · rfl
    · simp [Ne.symm this]
theorem bindL_mem {k : Str → Option NameKind} : ∀ {binds : List (Str × Value)} {m : Str → Option Value} {x : Str} {v : Value}, (binds.map (·.1)).Nodup → (x, v) ∈ binds → k x = some .local → bindL k binds m x = some v
  | (n, w) :: r, m, x, v, hn, hm, hk => by
    rw [List.map_cons, List.nodup_cons] at hn
    unfold bindL
    rcases List.mem_cons.mp hm with q | q
    · cases q
      rw [bindL_keep fun p hp z => hn.1 (by show n ∈ _; rw [← z]; exact List.mem_map.mpr ⟨p, hp, rfl⟩), if_pos hk]; simp
    · exact bindL_mem hn.2 q hk
theorem bindC_mem {k : Str → Option NameKind} : ∀ {binds : List (Str × Value)} {m : Str → Option Value} {x : Str} {v : Value}, (binds.map (·.1)).Nodup → (x, v) ∈ binds → k x = some .cell → bindC k binds m x = some v
  | (n, w) :: r, m, x, v, hn, hm, hk => by
    rw [List.map_cons, List.nodup_cons] at hn
    unfold bindC
    rcases List.mem_cons.mp hm with q | q
    · cases q
      rw [bindC_keep fun p hp z => hn.1 (by show n ∈ _; rw [← z]; exact List.mem_map.mpr ⟨p, hp, rfl⟩), if_neg (by rw [hk]; decide)]; simp
    · exact bindC_mem hn.2 q hk
theorem zip_names : ∀ {names : List Str} {vs : List Value}, vs.length = names.length → (names.zip vs).map (·.1) = names
  | [], [], _ => rfl
  | n :: names, v :: vs, h => by rw [List.zip_cons_cons, List.map_cons, zip_names (by simpa using h)]

theorem lookup_of_mem {α : Type} : ∀ {l : List (Str × α)} {p : Str × α}, (l.map (·.1)).Nodup → p ∈ l → l.lookup p.1 = some p.2
  | q :: l, p, hn, hm => by
    rw [List.map_cons, List.nodup_cons] at hn
    rw [show q = (q.1, q.2) from rfl, lookup_cons_of]
    rcases List.mem_cons.mp hm with z | z
    · subst z; simp
    · rw [if_neg fun e => hn.1 (by rw [← e]; exact List.mem_map.mpr ⟨p, z, rfl⟩)]
      exact lookup_of_mem hn.2 z
/-- a callee's frame -/
def calleeCx (prog : Program) (w : World) (mg mb : Str → Option Value) (K : List (Addr × Obj)) (fd : FuncData) (A : Around) (L f : Addr) (n : Nat) : Cx :=
  { prog := prog, w := w, A := A.deeper (callEnvC fd L f), env := callEnvC fd L f, wr := true, mg := mg, mb := mb, K := K, n := n }

theorem FnOk.of_body {prog : Program} {w : World} {mg mb : Str → Option Value} {K : List (Addr × Obj)} {f : Addr} {fd : FuncData} {body : List Stmt} {names : List Str} {ps : List PV} {r : PV} {d : Nat} (hd : IsDef K f fd) (hb : fd.body = .stmts body)
    (hbind : ∀ vs, vs.length = names.length → bindArgs fd ⟨vs, []⟩ = pure (names.zip vs)) (hnd : names.Nodup) (hlen : ps.length = names.length)
    (hcn : ∃ ns : List Str, (∀ L, (cellsFrom L fd.scope.names []).map (·.1) = ns) ∧ ns.Nodup)
    (hkind : ∀ L, ∀ x ∈ names, fd.scope.names.lookup x = some .local ∨ (fd.scope.names.lookup x = some .cell ∧ ((cellsFrom L fd.scope.names []).lookup x).isSome = true))
    (h : ∀ A L, EX (calleeCx prog w mg mb K fd A L f d) (names.zip ps) [] body (fun fl _ _ => fl = .ret r ∨ (fl = .next ∧ r = .none))) : FnOk prog w mg mb K f ps [] r (d + 1) := by
  intro A X vs s R hh hu hdp G tk hX hr k
  obtain ⟨o, hK, ho, hclo, hgl, hbl, hkd, hgen, hco, c, oc, cvs, ct, hc1, hc2, hc3, hc4⟩ := hd
  have hvl : vs.length = names.length := hr.len.trans hlen
  refine codeAny_call_function (show A.depth < recursionLimit by omega) (G.k _ hK) ho hco hgen hb ⟨c, oc, cvs, ct, hc1, G.k _ hc2, hc3, hc4⟩ ?_
  rw [hbind vs hvl, hclo]
  refine wpAny_pure (wpAny_tk tk (wpAny_newFunctionEnv_cells hkd (fun p hp => hkind _ p.1 (by rw [← zip_names hvl]; exact List.mem_map.mpr ⟨p, hp, rfl⟩)) fun env he s₁ IC pt => ?_))
  subst he
  refine ⟨G.lim.keeps IC.toInCall.keep, codeAny_func (body := body) ?_⟩
  obtain ⟨h1, t1, rfl, kp⟩ := IC.done
  have ok : (calleeCx prog w mg mb K fd A s.heap.objs.size f d).Ok := ⟨hkd, hh, by show A.units + 3 + 4 * d + 20 < cLine; omega, by show A.depth + 1 + d + 5 < recursionLimit; omega, hgl, hbl⟩
  have e0 := get_size s.heap
  have hcfresh : ∀ p ∈ (callEnvC fd s.heap.objs.size f).cells, s.heap.get? p.2 = none ∧ s.heap.objs.size < p.2 := fun p hp => by
    have := IC.above p.1 p.2 hp
    refine ⟨?_, this⟩
    cases q : s.heap.get? p.2 with
    | none => rfl
    | some o => exact absurd (Heap.lt_size q) (Nat.not_lt.mpr (Nat.le_of_lt this))
  have hlk : LookLe (vis s.heap X) (vis h1 ((calleeCx prog w mg mb K fd A s.heap.objs.size f d).hid ⟨s.heap, X⟩ [])) := fun a ob e => by
    obtain ⟨q1, q2⟩ := vis_get e
    refine vis_of (kp _ _ q1) fun hm => ?_
    rcases List.mem_cons.mp (show a ∈ (callEnvC fd s.heap.objs.size f).locals :: _ from hm) with z | z
    · rw [show a = s.heap.objs.size from z, e0] at q1; cases q1
    · rcases List.mem_append.mp z with z | z
      · obtain ⟨p, hp, rfl⟩ := List.mem_map.mp z
        rw [(hcfresh p hp).1] at q1; cases q1
      · exact q2 z
  have hE : Est (calleeCx prog w mg mb K fd A s.heap.objs.size f d) ⟨s.heap, X⟩ (names.zip ps) [] h1 := {
    g := G
    keep := kp
    liveX := fun a ha => by
      rcases List.mem_cons.mp ha with z | z
      · obtain ⟨o', es, ep, e, _⟩ := IC.toInCall.ns; exact ⟨o', z ▸ e⟩
      · rcases List.mem_append.mp z with z | z
        · obtain ⟨p, hp, rfl⟩ := List.mem_map.mp z
          obtain ⟨o', e, _⟩ := IC.cell _ _ (lookup_of_mem (by obtain ⟨ns, z1, z2⟩ := hcn; show ((cellsFrom (s.heap.objs.size + 1) fd.scope.names []).map (·.1)).Nodup; rw [z1]; exact z2) hp)
          exact ⟨o', e⟩
        · obtain ⟨o', e⟩ := hX a z; exact ⟨o', kp _ _ e⟩
    newL := e0
    locC := fun p hp q => by have := (hcfresh p hp).2; rw [show p.2 = s.heap.objs.size from q] at this; omega
    cells := fun _ => ⟨fun p hp => (hcfresh p hp).1, IC.apart⟩
    vars := by
      refine ⟨_, _, IC.toInCall.ns, IC.cell, fun x pv e => ?_⟩
      obtain ⟨v, hm, rv⟩ := lookup_zip_mem (ps := ps) (vs := vs) hr hlen x pv e
      have hxn : x ∈ names := by rw [← zip_names hvl]; exact List.mem_map.mpr ⟨_, hm, rfl⟩
      refine ⟨v, rv.get hlk, ?_⟩
      rcases hkind (s.heap.objs.size + 1) x hxn with q | ⟨q, q'⟩
      · exact .inl ⟨q, bindL_mem (by rw [zip_names hvl]; exact hnd) hm q⟩
      · exact .inr ⟨.inl q, Option.isSome_iff_exists.mp q', bindC_mem (by rw [zip_names hvl]; exact hnd) hm q⟩
    own := fun p hp => nomatch hp
    apart := List.nodup_nil }
  refine h A s.heap.objs.size ok ⟨s.heap, X⟩ { s with heap := h1, toks := t1 } _ _ hE pt fun fl fw V' M' h' t' e' rf hq => ?_
  rcases hq with rfl | ⟨rfl, rfl⟩
  · obtain ⟨v, rfl, rv⟩ := rf
    exact k v h' t' e'.keep (rv.get (vis_sub fun a ha => List.mem_cons_of_mem _ (List.mem_append_right _ ha)))
  · cases rf
    exact k .none h' t' e'.keep rfl
end
end Mine

/-! LayF -/
namespace Mine
open PySem PySem.W PySem.Calls PyProof.Rows
set_option Elab.async false
section
variable {C : Cx} {V : Vars} {M : Owns} {K : Cont}

/-- an argument, an owned list seen as it stands -/
def View (M : Owns) (p p' : PV) : Prop := p = p' ∨ (∃ a l, p = .at a ∧ (a, MO.list l) ∈ M ∧ p' = .list l) ∨ ∃ C' a l, p = .inst C' (.at a) ∧ (a, MO.list l) ∈ M ∧ p' = .inst C' (.list l)
def Views (M : Owns) : List PV → List PV → Prop
  | [], qs => qs = []
  | p :: ps, qs => ∃ q r, qs = q :: r ∧ View M p q ∧ Views M ps r
theorem Views.refl : ∀ (ps : List PV), Views M ps ps
  | [] => rfl
  | p :: ps => ⟨p, ps, rfl, .inl rfl, Views.refl ps⟩
theorem View.rep {B : Bs} {h : Heap} {p q : PV} {v : Value} (hv : View M p q) (hE : Est C B V M h) (r : Rep C.w.params (C.look B M h) p v) : Rep C.w.params (vis h (C.hb B)) q v := by
  have hl : LookLe (C.look B M h) (vis h (C.hb B)) := vis_sub fun a ha => List.mem_append_right _ ha
  rcases hv with rfl | ⟨a, l, rfl, hm, rfl⟩ | ⟨C', a, l, rfl, hm, rfl⟩
  · exact r.get hl
  · cases r
    obtain ⟨⟨vs, n, q, r⟩, _, q2⟩ := hE.own _ hm
    exact ⟨a, vs, n, rfl, vis_of q q2, RepL.mono hl _ r⟩
  · obtain ⟨ix, dx, m', t, u, rfl, g1, g2, g3⟩ := r
    cases g3
    obtain ⟨⟨vs, n, q, r⟩, _, q2⟩ := hE.own _ hm
    exact ⟨ix, dx, m', t, _, rfl, hl _ _ g1, hl _ _ g2, a, vs, n, rfl, vis_of q q2, RepL.mono hl _ r⟩
theorem Views.rep {B : Bs} {h : Heap} (hE : Est C B V M h) : ∀ {ps qs : List PV} {vs : List Value}, Views M ps qs → RepL C.w.params (C.look B M h) ps vs → RepL C.w.params (vis h (C.hb B)) qs vs
  | [], _, _, hv, r => by cases hv; exact r
  | p :: ps, _, _, hv, r => by
    obtain ⟨q, qs, rfl, h1, h2⟩ := hv
    obtain ⟨v, vs, rfl, r1, r2⟩ := r
    exact ⟨v, vs, rfl, h1.rep hE r1, Views.rep hE h2 r2⟩
theorem EX1.retView {e : Expr} {pos : Pos} {p p' : PV} (hv : EV C V M e p) (hw : View M p p') (h : K (.ret p') V M) : EX1 C V M (.Return (some e) pos) K := fun ok B s Q E hE tk k =>
  wpAny_Return_some (hv.then ok hE tk fun v h1 t1 k1 e1 p1 r1 => k (.ret p') (.ret v) _ _ h1 t1 e1 ⟨v, rfl, hw.rep e1 r1⟩ h)
def Scalar (r : PV) : Prop := ∀ P L L' v, Rep P L r v → Rep P L' r v
theorem Scalar.bool {b : Bool} : Scalar (.bool b) := fun _ _ _ _ h => h
theorem Scalar.int {b : Int} : Scalar (.int b) := fun _ _ _ _ h => h
theorem Scalar.str {b : Str} : Scalar (.str b) := fun _ _ _ _ h => h
theorem Scalar.none : Scalar .none := fun _ _ _ _ h => h

/-- a call of a def of the text, every argument frozen -/
theorem EV.callF {x : Str} {np pos : Pos} {es : List Expr} {ps : List PV} {f : Addr} {fd : FuncData} {r : PV} {d : Nat} (hf : EV C V M (.Name x np) (.val (.ref f))) (hs : starEach es C.env = es.map fun e => (false, eval e C.env)) (ha : EVs C V M es ps)
    (hd : IsDef C.K f fd) (h : FnOk C.prog C.w C.mg C.mb C.K f ps [] r d) (hn : d ≤ C.n) : EV C V M (.Call (.Name x np) es [] pos) r := fun ok B s Q E hE tk k => by
  refine wpAny_Call_NameR (hf.then ok hE tk fun v h1 t1 k1 e1 p1 r1 => ?_)
  cases r1
  rw [hs]
  obtain ⟨o, hK, ho, _⟩ := hd
  refine Calls.callWith_function (o := o) (fd := fd) (ha.args ok (s := { s with heap := h1, toks := t1 }) e1 p1 fun vs h2 t2 k2 e2 p2 r2 => ⟨⟨e2.G.k _ hK, ho⟩, wpAny_call ?_⟩)
  have hu := ok.units
  have hdp := ok.depth
  refine h C.A (C.hid B M) vs { s with heap := h2, toks := t2 } _ ok.hh (by omega) (by omega) e2.G p2 (fun a q => ?_) r2 fun v h3 t3 k3 r3 => k v h3 t3 (k1.trans (k2.trans k3)) r3
  rcases List.mem_append.mp q with q | q
  · obtain ⟨p, hp, rfl⟩ := List.mem_map.mp q
    exact (e2.own p hp).1.live
  · exact e2.liveX a q
/-- the same, owned lists among the arguments, the answer a plain value -/
theorem EV.callV {x : Str} {np pos : Pos} {es : List Expr} {ps qs : List PV} {f : Addr} {fd : FuncData} {r : PV} {d : Nat} (hf : EV C V M (.Name x np) (.val (.ref f))) (hs : starEach es C.env = es.map fun e => (false, eval e C.env)) (ha : EVs C V M es ps) (hv : Views M ps qs) (hr : Scalar r)
    (hd : IsDef C.K f fd) (h : FnOk C.prog C.w C.mg C.mb C.K f qs [] r d) (hn : d ≤ C.n) : EV C V M (.Call (.Name x np) es [] pos) r := fun ok B s Q E hE tk k => by
  refine wpAny_Call_NameR (hf.then ok hE tk fun v h1 t1 k1 e1 p1 r1 => ?_)
  cases r1
  rw [hs]
  obtain ⟨o, hK, ho, _⟩ := hd
  refine Calls.callWith_function (o := o) (fd := fd) (ha.args ok (s := { s with heap := h1, toks := t1 }) e1 p1 fun vs h2 t2 k2 e2 p2 r2 => ⟨⟨e2.G.k _ hK, ho⟩, wpAny_call ?_⟩)
  have hu := ok.units
  have hdp := ok.depth
  exact h C.A (C.hb B) vs { s with heap := h2, toks := t2 } _ ok.hh (by omega) (by omega) e2.G p2 (fun a q => e2.liveX a q) (hv.rep e2 r2) fun v h3 t3 k3 r3 => k v h3 t3 (k1.trans (k2.trans k3)) (hr _ _ _ _ r3)

/-- the cells that a comprehension captures -/
def clFrom (env : Env) : List (Str × NameKind) → List (Str × Addr) → List (Str × Addr)
  | [], cs => cs
  | (n, k) :: r, cs => if k == .free then (match env.cells.lookup n with | some c => clFrom env r ((n, c) :: cs) | none => clFrom env r cs) else clFrom env r cs
def clOf (scope : Scope) (env : Env) : List (Str × Addr) := clFrom env scope.names []
theorem clFrom_mem {env : Env} : ∀ {names : List (Str × NameKind)} {cs : List (Str × Addr)}, (∀ p ∈ cs, env.cells.lookup p.1 = some p.2) → ∀ p ∈ clFrom env names cs, env.cells.lookup p.1 = some p.2
  | [], cs, h, p, hp => h p hp
  | (n, k) :: r, cs, h, p, hp => by
    unfold clFrom at hp
    split at hp
    · split at hp
      · rename_i c hc
        exact clFrom_mem (fun q hq => by rcases List.mem_cons.mp hq with z | z; (subst z; exact hc); exact h q z) p hp
      · exact clFrom_mem h p hp
    · exact clFrom_mem h p hp
theorem closureFor_cl {env : Env} {scope : Scope} (h : ∀ p ∈ scope.names, p.2 = .free → (env.cells.lookup p.1).isSome = true) : closureFor scope env = pure (clOf scope env) := by
  unfold closureFor clOf
  have key : ∀ (names : List (Str × NameKind)) (cs : List (Str × Addr)), (∀ p ∈ names, p.2 = .free → (env.cells.lookup p.1).isSome = true) →
      (forIn names cs fun (x : Str × NameKind) (r : List (Str × Addr)) => if x.2 == .free then (do let c ← cellOf env x.1; pure (ForInStep.yield ((x.1, c) :: r))) else pure (ForInStep.yield r)) = (pure (clFrom env names cs) : Sem _) := by
    intro names
    induction names with
    | nil => intro cs _; rfl
    | cons q r ih =>
      intro cs hq
      obtain ⟨n, k⟩ := q
      rw [List.forIn_cons]
      unfold clFrom
      cases hk : k == NameKind.free with
      | false =>
        simp only [hk, Bool.false_eq_true, if_false]
        exact ih cs fun p hp => hq p (List.mem_cons_of_mem _ hp)
      | true =>
        simp only [hk, if_true]
        obtain ⟨c, hc⟩ := Option.isSome_iff_exists.mp (hq (n, k) List.mem_cons_self (beq_iff_eq.mp hk))
        have hcell : cellOf env n = pure c := by unfold cellOf; rw [hc]
        rw [hcell, hc]
        exact ih _ fun p hp => hq p (List.mem_cons_of_mem _ hp)
  have := key scope.names [] h
  exact congrArg (fun m : Sem (List (Str × Addr)) => m >>= fun cs => pure cs) this

/-- a comprehension's block -/
def compCx (C : Cx) (scope : Scope) (Ca : Addr) : Cx := { C with env := compEnvC scope (clOf scope C.env) Ca C.env, wr := false }
structure CompOk (C : Cx) (V Vc : Vars) (scope : Scope) (x : Str) : Prop where
  free : ∀ p ∈ scope.names, p.2 = .free → (C.env.cells.lookup p.1).isSome = true
  cell : ∀ y ∈ scope.names, y.2 ≠ .cell
  kind : scope.kind = .function
  names : ∀ y ∈ scope.names, y.2 = .local → scope.names.lookup y.1 = some .local
  x : scope.names.lookup x = some .local
  caught : ∀ y pv, Vc.lookup y = some pv → V.lookup y = some pv ∧ C.env.kindOf y = some .cell ∧ (relabel scope C.env).names.lookup y = some .cell ∧ ((clOf scope C.env).lookup y).isSome = true

def CT (C : Cx) (V : Vars) (M : Owns) (ifs : List Expr) (b : Bool) : Prop :=
  C.Ok → ∀ (B : Bs) (s : Shared) (Q : Bool → Shared → Prop) (E : Value → Shared → Prop), Est C B V M s.heap → 0 < s.toks →
    (∀ h' t', Keep s.heap h' → Q b { s with heap := h', toks := t' }) →
    wpAny (model C.prog C.w) C.A (forIn ifs true fun c r => if r = true then do let ok ← isTrue c C.env (eval c C.env); pure (ForInStep.yield ok) else pure (ForInStep.yield r)) Q E s
theorem CT.nil : CT C V M [] true := fun _ _ s _ _ _ _ k => wpAny_tests_nil (k s.heap s.toks .rfl)
theorem CT.one {c : Expr} {b : Bool} (h : ET C V M c b) : CT C V M [c] b := fun ok B s Q E hE tk k => wpAny_tests_one (h ok B s Q E hE tk k)

/-- a block's frame over the outer one's -/
theorem Est.block {B : Bs} {h h' : Heap} {scope : Scope} {x : Str} {Vc : Vars} {Ca D : Addr} {wr : List Addr} {p : PV} {v : Value} {m : Str → Option Value} (hE : Est C B V M h) (ok : C.Ok) (co : CompOk C V Vc scope x) (kp : Keep h h')
    (hCa : h.get? Ca = none) (hX : ∀ a ∈ D :: wr, ∃ o, h'.get? a = some o) (hD : ∀ a ∈ D :: wr, h.get? a = none) (hn : h'.Ns Ca m) (hm : m x = some v)
    (hp : Rep C.w.params ((compCx C scope Ca).look ⟨B.h₀, D :: (wr ++ C.hid B M)⟩ [] h') p v) : Est (compCx C scope Ca) ⟨B.h₀, D :: (wr ++ C.hid B M)⟩ ((x, p) :: Vc) [] h' := by
  have hcl : ∀ q ∈ clOf scope C.env, C.env.cells.lookup q.1 = some q.2 := clFrom_mem (fun _ z => nomatch z)
  have hclh : ∀ q ∈ clOf scope C.env, q.2 ∈ C.hid B M := fun q hq => List.mem_append_right _ (List.mem_cons_of_mem _ (List.mem_append_left _ (List.mem_map.mpr ⟨_, mem_of_lookup (hcl q hq), rfl⟩)))
  have hlook : LookLe (C.look B M h) ((compCx C scope Ca).look ⟨B.h₀, D :: (wr ++ C.hid B M)⟩ [] h') := fun a o e => by
    obtain ⟨e1, n⟩ := vis_get e
    refine vis_of (kp a o e1) fun z => ?_
    rcases List.mem_cons.mp (show a ∈ Ca :: _ from z) with z | z
    · subst z; rw [hCa] at e1; cases e1
    · rcases List.mem_append.mp z with z | z
      · obtain ⟨q, hq, rfl⟩ := List.mem_map.mp z; exact n (hclh q hq)
      · rcases List.mem_cons.mp z with z | z
        · subst z; rw [hD a List.mem_cons_self] at e1; cases e1
        · rcases List.mem_append.mp z with z | z
          · rw [hD a (List.mem_cons_of_mem _ z)] at e1; cases e1
          · exact n z
  have livehid : ∀ a ∈ C.hid B M, ∃ o, h.get? a = some o := fun a z => by
    rcases List.mem_append.mp z with z | z
    · obtain ⟨q, hq, rfl⟩ := List.mem_map.mp z; exact (hE.own q hq).1.live
    · exact hE.liveX a z
  exact {
    g := hE.g
    keep := hE.keep.trans kp
    liveX := fun a ha => by
      rcases List.mem_cons.mp ha with z | z
      · obtain ⟨o, es, ep, e, _⟩ := hn; exact ⟨o, z ▸ e⟩
      · rcases List.mem_append.mp z with z | z
        · obtain ⟨q, hq, rfl⟩ := List.mem_map.mp z
          obtain ⟨o, e⟩ := livehid _ (hclh q hq); exact ⟨o, kp _ _ e⟩
        · rcases List.mem_cons.mp z with z | z
          · exact hX a (z ▸ List.mem_cons_self)
          · rcases List.mem_append.mp z with z | z
            · exact hX a (List.mem_cons_of_mem _ z)
            · obtain ⟨o, e⟩ := livehid a z; exact ⟨o, kp _ _ e⟩
    newL := Bs.none_of hE.keep hCa
    locC := fun q hq z => by
      obtain ⟨o, e⟩ := livehid _ (hclh q hq)
      rw [show q.2 = Ca from z, hCa] at e; cases e
    cells := fun w => nomatch w
    vars := by
      obtain ⟨mm, cm, h1, h2, h3⟩ := hE.vars
      refine ⟨m, cm, hn, fun n c e => (h2 n c (hcl _ (mem_of_lookup e))).keeps kp, fun y pv e => ?_⟩
      rw [lookup_cons_of] at e
      by_cases q : y = x
      · subst q
        rw [if_pos rfl] at e; cases e
        exact ⟨v, hp, .inl ⟨lookup_relabel_local co.x, hm⟩⟩
      · rw [if_neg q] at e
        obtain ⟨z1, z2, z3, z4⟩ := co.caught y pv e
        obtain ⟨v', r', z⟩ := h3 y pv z1
        refine ⟨v', r'.get hlook, ?_⟩
        rcases z with ⟨z, _⟩ | ⟨_, _, z⟩
        · rw [z2] at z; cases z
        · exact .inr ⟨.inl z3, Option.isSome_iff_exists.mp z4, z⟩
    own := fun p hp => nomatch hp
    apart := List.nodup_nil }

theorem comp_run {elt iter : Expr} {x : Str} {px : Pos} {ifs : List Expr} {scope : Scope} {pos : Pos} {items : List PV} {kp : PV → Bool} {f : PV → PV} {Vc : Vars} {RR : Value → Addr → Result → Shared → Prop}
    (co : CompOk C V Vc scope x) (hi : It C V M iter items) (hsz : items.length ≤ sizeLine)
    (hbody : ∀ Ca, ∀ p ∈ items, CT (compCx C scope Ca) ((x, p) :: Vc) [] ifs (kp p) ∧ (kp p = true → EV (compCx C scope Ca) ((x, p) :: Vc) [] elt (f p)))
    (ok : C.Ok) {B : Bs} {s : Shared} {E : Value → Shared → Prop} (hE : Est C B V M s.heap) (tk : 0 < s.toks)
    (fin : ∀ D Ca ys n m h' t', s.heap.get? D = none → s.heap.get? Ca = none → D ≠ Ca → Keep s.heap h' → h'.get? D = some (listObj ys n) → RepL C.w.params (vis h' (Ca :: C.hid B M)) ((items.filter kp).map f) ys → h'.Ns Ca m →
      RR (.ref D) Ca (.ok .next) { s with heap := h', toks := t' }) :
    wpAny (model C.prog C.w) C.A (eval iter C.env) (fun xv s₁ => wpAny (model C.prog C.w) C.A (pyIter xv) (fun it s₂ => wpAny (model C.prog C.w) C.A (newList []) (fun acc s₃ => wpAny (model C.prog C.w) C.A (newFunctionEnv scope C.env.globals (clOf scope C.env) [] C.env.qual none .none (some C.env)) (fun cenv s₄ =>
      codeAny (model C.prog C.w) C.A (.compStart (.ListComp elt [⟨.Name x px, iter, ifs, 0⟩] scope pos) 0 it acc { cenv with scope := relabel scope C.env }) (RR acc cenv.locals) s₄) E s₃) E s₂) E s₁) E s := by
  refine hi ok B s _ E hE tk fun I fp wr P St h1 t1 k1 W st0 hwf hlv hfp hP pt1 => ?_
  refine wpAny_newObj_type (wpAny_newFunctionEnv co.cell (by intro y hy; simp at hy) (fun h3 hns3 hsb3 => ?_) co.kind)
  have e0 := get_size h1
  have ePush : (h1.push (listObj [] 0)).objs.size = h1.objs.size + 1 := Heap.size_push ..
  have eC := get_size (h1.push (listObj [] 0))
  have kD : Keep h1 (h1.push (listObj [] 0)) := Keep.rfl.push _
  have k13 : Keep h1 h3 := fun b o e => hsb3.extBut b o (fun q => by
    rw [q] at e
    have e' := kD _ _ e
    rw [eC] at e'; cases e') (Heap.get?_push_of_some _ (kD b o e))
  generalize hCa : (h1.push (listObj [] 0)).objs.size = Ca at *
  have hDCa : h1.objs.size ≠ Ca := by omega
  have hDval : h3.get? h1.objs.size = some (listObj [] 0) := hsb3.extBut _ _ hDCa (Heap.get?_push_of_some _ (Heap.get?_push_size _ rfl))
  generalize hDD : h1.objs.size = D at *
  have hns3' : h3.Ns Ca (fun x => ([] : List (Str × Value)).reverse.lookup x) := hns3
  have hCa1 : h1.get? Ca = none := by
    cases q : h1.get? Ca with
    | none => rfl
    | some o => have := kD _ _ q; rw [eC] at this; cases this
  have ks3 : Keep s.heap h3 := k1.trans k13
  have snone : ∀ b, h1.get? b = none → s.heap.get? b = none := fun b e => by
    cases q : s.heap.get? b with
    | none => rfl
    | some o => rw [k1 _ _ q] at e; cases e
  have hwrD : ∀ b ∈ wr, b ≠ D ∧ b ≠ Ca := fun b hb => by
    obtain ⟨o, e⟩ := hlv 0 h1 st0 b hb
    exact ⟨fun q => (by rw [q, e0] at e; cases e), fun q => (by rw [q, hCa1] at e; cases e)⟩
  have hfp' : ∀ b ∈ fp, b ≠ D ∧ b ≠ Ca := fun b hb => by
    rcases hfp b hb with q | ⟨o, q⟩
    · exact hwrD b q
    · have e := (vis_get q).1
      exact ⟨fun q => (by rw [q, e0] at e; cases e), fun q => (by rw [q, hCa1] at e; cases e)⟩
  have st3 : St 0 h3 := W.frame 0 h1 h3 st0 fun b hb o e => k13 b o e
  -- what is kept through the loop
  have keepS : ∀ h', KeepBut (Ca :: D :: wr) h3 h' → Keep s.heap h' := fun h' kb b o e => kb b o (fun z => by
    rcases List.mem_cons.mp z with z | z
    · rw [z, snone _ hCa1] at e; cases e
    · rcases List.mem_cons.mp z with z | z
      · rw [z, snone _ e0] at e; cases e
      · rw [hwf b z] at e; cases e) (ks3 b o e)
  have loop : ∀ s₄ : Shared, s₄ = { s with heap := h3, toks := t1 + ([] : List (Str × Value)).length } →
      codeAny (model C.prog C.w) C.A (.compLoop (.ListComp elt [⟨.Name x px, iter, ifs, 0⟩] scope pos) 0 (.ref I) (.ref D) (compEnvC scope (clOf scope C.env) Ca C.env)) (RR (.ref D) Ca) s₄ := by
    rintro s₄ rfl
    refine codeAny_compLoop_tests (I := fun n s' => ∃ done rest ys k m h' t', items = done ++ rest ∧ n = rest.length ∧ s' = { s with heap := h', toks := t' } ∧ KeepBut (Ca :: D :: wr) h3 h' ∧ h'.Ns Ca m ∧ h'.get? D = some (listObj ys k) ∧
      RepL C.w.params ((compCx C scope Ca).look ⟨B.h₀, D :: (wr ++ C.hid B M)⟩ [] h') ((done.filter kp).map f) ys ∧ 0 < t' ∧ St done.length h') ?_ items.length ⟨[], items, [], 0, _, h3, _, rfl, rfl, rfl, fun _ _ _ e => e, hns3', hDval, rfl, pt1, st3⟩ (fun _ => rfl)
    rintro n s' ⟨done, rest, ys, k, m, h', t', hit, rfl, rfl, kb, hns, hD, hr, pt, st⟩
    have hCl : ∀ q ∈ clOf scope C.env, q.2 ∈ C.hid B M := fun q hq => List.mem_append_right _ (List.mem_cons_of_mem _ (List.mem_append_left _ (List.mem_map.mpr ⟨_, mem_of_lookup (clFrom_mem (by intro _ z; cases z) q hq), rfl⟩)))
    cases rest with
    | nil =>
      rw [List.append_nil] at hit; subst hit
      refine W.done _ _ _ st fun h'' t'' kw => ?_
      have kb2 : KeepBut (Ca :: D :: wr) h3 h'' := fun b o n e => kw b o (fun z => n (List.mem_cons_of_mem _ (List.mem_cons_of_mem _ z))) (kb b o n e)
      obtain ⟨o, es, ep, e, er⟩ := hns
      refine fin D Ca ys k m h'' t'' (snone _ e0) (snone _ hCa1) hDCa (keepS h'' kb2) (kw _ _ (fun z => (hwrD _ z).1 rfl) hD) (RepL.mono (fun a ob z => ?_) _ hr) ⟨o, es, ep, kw _ _ (fun z => (hwrD _ z).2 rfl) e, er⟩
      obtain ⟨z1, z2⟩ := vis_get z
      refine vis_of (kw _ _ (fun q => z2 (List.mem_cons_of_mem _ (List.mem_append_right _ (List.mem_cons_of_mem _ (List.mem_append_left _ q))))) z1) fun q => z2 ?_
      rcases List.mem_cons.mp q with q | q
      · exact q ▸ List.mem_cons_self
      · exact List.mem_cons_of_mem _ (List.mem_append_right _ (List.mem_cons_of_mem _ (List.mem_append_right _ q)))
    | cons p rest =>
      refine wpAny_tk (s := { s with heap := h', toks := t' }) pt (W.item done.length _ _ _ (by rw [hit]; simp) st fun v h'' t'' hp st' kw pt2 => ?_)
      have kb2 : KeepBut (Ca :: D :: wr) h3 h'' := fun b o n e => kw b o (fun z => n (List.mem_cons_of_mem _ (List.mem_cons_of_mem _ z))) (kb b o n e)
      obtain ⟨o, es, ep, e, er⟩ := hns
      have hns2 : h''.Ns Ca m := ⟨o, es, ep, kw _ _ (fun z => (hwrD _ z).2 rfl) e, er⟩
      have hD2 := kw _ _ (fun z => (hwrD _ z).1 rfl) hD
      -- the name
      refine wpAny_assign_Name (wpAny_storeName_local (env := compEnvC scope (clOf scope C.env) Ca C.env) (lookup_relabel_local co.x) hns2 (fun h4 hn4 hs4 => ?_) (by show (scope.kind == .class || _) = false; simp [compEnvC, relabel, co.kind]))
      have kb4 : KeepBut (Ca :: D :: wr) h3 h4 := fun b o n e => hs4.extBut b o (fun z => n (z ▸ List.mem_cons_self)) (kb2 b o n e)
      have hD4 : h4.get? D = some (listObj ys k) := hs4.extBut _ _ hDCa hD2
      have st4 : St (done.length + 1) h4 := W.frame _ _ _ st' fun b hb o e => hs4.extBut b o (hfp' b hb).2 e
      have hlk : ∀ {ha hb : Heap}, KeepBut (Ca :: D :: wr) ha hb → LookLe ((compCx C scope Ca).look ⟨B.h₀, D :: (wr ++ C.hid B M)⟩ [] ha) ((compCx C scope Ca).look ⟨B.h₀, D :: (wr ++ C.hid B M)⟩ [] hb) := fun kk a ob z => by
        obtain ⟨z1, z2⟩ := vis_get z
        refine vis_of (kk a ob (fun q => z2 ?_) z1) z2
        rcases List.mem_cons.mp q with q | q
        · exact q ▸ List.mem_cons_self
        · refine List.mem_cons_of_mem _ (List.mem_append_right _ ?_)
          rcases List.mem_cons.mp q with q | q
          · exact q ▸ List.mem_cons_self
          · exact List.mem_cons_of_mem _ (List.mem_append_left _ q)
      have hr4 : RepL C.w.params ((compCx C scope Ca).look ⟨B.h₀, D :: (wr ++ C.hid B M)⟩ [] h4) ((done.filter kp).map f) ys := RepL.mono (hlk fun b o n e => hs4.extBut b o (fun z => n (z ▸ List.mem_cons_self)) (kw b o (fun z => n (List.mem_cons_of_mem _ (List.mem_cons_of_mem _ z))) e)) _ hr
      have hpr : Rep C.w.params ((compCx C scope Ca).look ⟨B.h₀, D :: (wr ++ C.hid B M)⟩ [] h4) p v := (hP done.length p v (by rw [hit]; simp) hp).get fun a ob z => by
        obtain ⟨z1, z2⟩ := vis_get z
        have nD : a ≠ D := fun q => by rw [q, e0] at z1; cases z1
        have nC : a ≠ Ca := fun q => by rw [q, hCa1] at z1; cases z1
        have nw : a ∉ wr := fun q => z2 (List.mem_append_left _ q)
        refine vis_of (kb4 a ob (fun q => ?_) (k13 a ob z1)) fun q => ?_
        · rcases List.mem_cons.mp q with q | q
          · exact nC q
          · rcases List.mem_cons.mp q with q | q
            · exact nD q
            · exact nw q
        · rcases List.mem_cons.mp (show a ∈ Ca :: _ from q) with q | q
          · exact nC q
          · rcases List.mem_append.mp q with q | q
            · obtain ⟨y, hy, rfl⟩ := List.mem_map.mp q
              exact z2 (List.mem_append_right _ (hCl y hy))
            · rcases List.mem_cons.mp q with q | q
              · exact nD q
              · exact z2 q
      have hX4 : ∀ a ∈ D :: wr, ∃ o, h4.get? a = some o := fun a ha => by
        rcases List.mem_cons.mp ha with q | q
        · exact ⟨_, q ▸ hD4⟩
        · exact hlv _ _ st4 a q
      have hXn : ∀ a ∈ D :: wr, s.heap.get? a = none := fun a ha => by
        rcases List.mem_cons.mp ha with q | q
        · exact q ▸ snone _ e0
        · exact hwf a q
      have E4 : Est (compCx C scope Ca) ⟨B.h₀, D :: (wr ++ C.hid B M)⟩ ((x, p) :: Vc) [] h4 := hE.block ok co (keepS h4 kb4) (snone _ hCa1) hX4 hXn hn4 (by simp) hpr
      have okc : (compCx C scope Ca).Ok := ⟨by show (relabel scope C.env).kind = _; simp [relabel, co.kind], ok.hh, ok.units, ok.depth, ok.gl, ok.bl⟩
      obtain ⟨hb1, hb2⟩ := hbody Ca p (by rw [hit]; simp)
      refine wpAny_tk (s := { s with heap := h4, toks := t'' + 1 }) (Nat.succ_pos _) (hb1 okc _ { s with heap := h4, toks := t'' + 1 } _ _ E4 (Nat.succ_pos _) fun h5 t5 k5 pt5 => ?_)
      have hit' : items = (done ++ [p]) ++ rest := by rw [hit]; simp
      have hns5 : h5.Ns Ca _ := hn4.keeps k5
      have kb5 : KeepBut (Ca :: D :: wr) h3 h5 := fun b o n e => k5 _ _ (kb4 b o n e)
      have st5 : St (done.length + 1) h5 := W.frame _ _ _ st4 fun b hb o e => k5 b o e
      cases hkp : kp p with
      | false =>
        rw [if_neg Bool.false_ne_true]
        refine ⟨rest.length, Nat.lt_succ_self _, done ++ [p], rest, ys, k, _, h5, t5, hit', rfl, rfl, kb5, hns5, k5 _ _ hD4, ?_, pt5, by rw [List.length_append]; exact st5⟩
        rw [List.filter_append, List.filter_cons_of_neg (by simp [hkp]), List.filter_nil, List.append_nil]
        exact RepL.mono (vis_keep k5) _ hr4
      | true =>
        rw [if_pos rfl]
        refine (hb2 hkp).then okc (s := { s with heap := h5, toks := t5 }) (E4.kept k5) pt5 fun y h6 t6 k6 e6 p6 r6 => ?_
        have hD6 : h6.get? D = some (listObj ys k) := k6 _ _ (k5 _ _ hD4)
        have hlen : ys.length ≤ sizeLine := by
          rw [hr4.len, List.length_map]
          refine Nat.le_trans (List.length_filter_le _ _) (Nat.le_trans ?_ hsz)
          rw [hit]; simp
        refine call_meets slot_list_append ⟨_, hD6, rfl⟩ F.entry_list_append (F.args_list_append_2 _ _) (AutoListH.list_append_list_val_0 D ys.toArray k y (by rw [List.size_toArray]; exact hlen)) ⟨hD6, ?_⟩
        have hs7 : Heap.SameBut D h6 (h6.update D (Obj.mapSeq fun a => a.push y)) := Heap.SameBut.update ..
        have kb7 : KeepBut (Ca :: D :: wr) h6 (h6.update D (Obj.mapSeq fun a => a.push y)) := fun b o n e => hs7.extBut b o (fun z => n (z ▸ List.mem_cons_of_mem _ List.mem_cons_self)) e
        obtain ⟨k', hD7⟩ : ∃ k', (h6.update D (Obj.mapSeq fun a => a.push y)).get? D = some (listObj (ys ++ [y]) k') := by
          exact ⟨_, (Heap.get?_update_self _ hD6 rfl).trans (by show some (Obj.mk _ _ (Data.seq (ys.toArray.push y) _) _) = some (Obj.mk _ _ (Data.seq (ys ++ [y]).toArray _) _); rw [List.push_toArray])⟩
        refine ⟨rest.length, Nat.lt_succ_self _, done ++ [p], rest, ys ++ [y], k', _, _, t6, hit', rfl, rfl, fun b o n e => kb7 b o n (k6 _ _ (kb5 b o n e)), (hns5.keeps k6).sameBut hs7 (Ne.symm hDCa), hD7, ?_, p6, ?_⟩
        · rw [List.filter_append, List.filter_cons_of_pos hkp, List.filter_nil, List.map_append]
          exact RepL.snoc (RepL.mono ((vis_keep (k5.trans k6)).trans (hlk kb7)) _ hr4) (r6.get (hlk kb7))
        · rw [List.length_append]
          exact W.frame _ _ _ (W.frame _ _ _ st5 fun b hb o e => k6 b o e) fun b hb o e => hs7.extBut b o (hfp' b hb).1 e
  have hst : codeAny (model C.prog C.w) C.A (.compStart (.ListComp elt [⟨.Name x px, iter, ifs, 0⟩] scope pos) 0 (.ref I) (.ref D) (compEnvC scope (clOf scope C.env) Ca C.env)) (RR (.ref D) Ca) { s with heap := h3, toks := t1 + ([] : List (Str × Value)).length } :=
    codeAny_compStart_list (loop _ rfl) (W.self 0 _ _ _ st3 (loop _ rfl))
  exact hst
end
end Mine

/-! LayG -/
namespace Mine
open PySem PySem.W PySem.Calls PyProof.Rows
set_option Elab.async false
section
variable {C : Cx} {V : Vars} {M : Owns} {K : Cont}

theorem SN.comp {elt iter : Expr} {x : Str} {px : Pos} {ifs : List Expr} {scope : Scope} {pos : Pos} {items : List PV} {kp : PV → Bool} {f : PV → PV} {Vc : Vars}
    (co : CompOk C V Vc scope x) (hi : It C V M iter items) (hsz : items.length ≤ sizeLine)
    (hbody : ∀ Ca, ∀ p ∈ items, CT (compCx C scope Ca) ((x, p) :: Vc) [] ifs (kp p) ∧ (kp p = true → EV (compCx C scope Ca) ((x, p) :: Vc) [] elt (f p)))
    (hs : ∀ x, foldedSetIterable iter C.env x = pure x) : SN C V M (eval (.ListComp elt [⟨.Name x px, iter, ifs, 0⟩] scope pos) C.env) ((items.filter kp).map f) := fun ok B s Q E hE tk k => by
  rw [eval_ListComp]
  refine wpAny_comprehension_free (use := none) rfl hs (closureFor_cl co.free) co.kind co.names ?_
  refine comp_run (RR := fun acc Ca => compPost (model C.prog C.w) C.A E none Q acc Ca) co hi hsz hbody ok hE tk fun D Ca ys n m h' t' hD hCa hne kp hDv hr hns => ?_
  refine ⟨m, hns, fun h'' hs'' => ?_⟩
  have hDn : D ∉ C.hid B M := hE.fresh hD
  refine k D ys n h'' t' hD (hs''.extBut _ _ hne hDv) (RepL.mono (fun a o e => ?_) _ hr) fun b o e => hs''.extBut _ _ (fun q => by rw [q, hCa] at e; cases e) (kp b o e)
  obtain ⟨e1, e2⟩ := vis_get e
  exact vis_of (hs''.extBut _ _ (fun q => e2 (q ▸ List.mem_cons_self)) e1) fun q => e2 (List.mem_cons_of_mem _ q)
theorem EV.comp {elt iter : Expr} {x : Str} {px : Pos} {ifs : List Expr} {scope : Scope} {pos : Pos} {items : List PV} {kp : PV → Bool} {f : PV → PV} {Vc : Vars}
    (co : CompOk C V Vc scope x) (hi : It C V M iter items) (hsz : items.length ≤ sizeLine)
    (hbody : ∀ Ca, ∀ p ∈ items, CT (compCx C scope Ca) ((x, p) :: Vc) [] ifs (kp p) ∧ (kp p = true → EV (compCx C scope Ca) ((x, p) :: Vc) [] elt (f p)))
    (hs : ∀ x, foldedSetIterable iter C.env x = pure x) : EV C V M (.ListComp elt [⟨.Name x px, iter, ifs, 0⟩] scope pos) (.list ((items.filter kp).map f)) :=
  (SN.comp co hi hsz hbody hs).sv

/-- a store while a new thing is about that will go -/
theorem wp_store_over {y : Str} {l : PV} {v : Value} {B : Bs} {s : Shared} {h' : Heap} {t' : Nat} {Ca : Addr} {m : Str → Option Value} {Q : Flow → Shared → Prop} {E : Value → Shared → Prop} (ok : C.Ok) (hy : C.St y) (hE : Est C B V M s.heap) (kp : Keep s.heap h')
    (hCa : s.heap.get? Ca = none) (hns : h'.Ns Ca m) (hr : Rep C.w.params (vis h' (Ca :: C.hid B M)) l v)
    (k : ∀ h2 t2, Est C B ((y, l) :: V) M h2 → Q .next { s with heap := h2, toks := t2 }) :
    wpAny (model C.prog C.w) C.A (storeName C.env y v) (fun _ s'' => ∃ m, s''.heap.Ns Ca m ∧ ∀ h'', Heap.SameBut Ca s''.heap h'' → Q .next { s'' with heap := h'' }) E { s with heap := h', toks := t' } := by
  obtain ⟨oc, esc, epc, ec, erc⟩ := hns
  have E1 := hE.rebaseW (wr := [Ca]) kp (fun b hb => by rw [List.mem_singleton.mp hb]; exact hCa) (fun b hb => by rw [List.mem_singleton.mp hb]; exact ⟨oc, ec⟩)
  have hnh : Ca ∉ C.hid B M := hE.fresh hCa
  have E2 := E1.rebase
  have hown : Ca ∉ C.own M := fun q => by
    rcases List.mem_append.mp q with q | q
    · exact hnh (List.mem_append_left _ q)
    · rcases List.mem_cons.mp q with q | q
      · exact hnh (List.mem_append_right _ (q ▸ List.mem_cons_self))
      · split at q
        · exact hnh (List.mem_append_right _ (List.mem_cons_of_mem _ (List.mem_append_left _ q)))
        · cases q
  have hr2 : Rep C.w.params (C.look ⟨hideAll h' (C.own M), [Ca] ++ B.X⟩ M h') l v := hr.get (vis_sub fun a ha => by
    rcases List.mem_append.mp ha with q | q
    · exact List.mem_cons_of_mem _ (List.mem_append_left _ q)
    · rcases List.mem_cons.mp q with q | q
      · exact List.mem_cons_of_mem _ (List.mem_append_right _ (q ▸ List.mem_cons_self))
      · rcases List.mem_append.mp q with q | q
        · exact List.mem_cons_of_mem _ (List.mem_append_right _ (List.mem_cons_of_mem _ (List.mem_append_left _ q)))
        · rcases List.mem_cons.mp q with q | q
          · exact q ▸ List.mem_cons_self
          · exact List.mem_cons_of_mem _ (List.mem_append_right _ (List.mem_cons_of_mem _ (List.mem_append_right _ q))))
  refine wp_store ok (s := { s with heap := h', toks := t' }) hy E2 hr2 fun h2 t2 e2 => ?_
  have ec2 : h2.get? Ca = some oc := e2.keep _ _ (hideAll_get _ ec hown)
  refine ⟨m, ⟨oc, esc, epc, ec2, erc⟩, fun h'' hs'' => k h'' t2 ?_⟩
  have e3 := E1.back e2
  have hloc : ∀ b ∈ [Ca], b ≠ C.env.locals ∧ ∀ p ∈ C.env.cells, b ≠ p.2 := fun b hb => by
    rw [List.mem_singleton.mp hb]
    exact ⟨fun q => hnh (List.mem_append_right _ (q ▸ List.mem_cons_self)), fun p hp q => hnh (List.mem_append_right _ (List.mem_cons_of_mem _ (List.mem_append_left _ (q ▸ List.mem_map.mpr ⟨p, hp, rfl⟩))))⟩
  have e4 := e3.stepX (h' := h'') (fun b o n e => hs''.extBut _ _ (fun q => n (q ▸ List.mem_singleton.mpr rfl)) e) (fun b hb => hideAll_none _ (List.mem_append_right _ hb)) hloc
    (fun a ha q => hnh (List.mem_append_right _ (List.mem_cons_of_mem _ (List.mem_append_right _ (List.mem_singleton.mp q ▸ ha)))))
  exact e4.weaken ((hE.kept kp).strip_keep [Ca] fun b hb => by rw [List.mem_singleton.mp hb]; exact Bs.none_of hE.keep hCa) hE.g

theorem EX1.assignComp {elt iter : Expr} {x y : Str} {px py : Pos} {ifs : List Expr} {scope : Scope} {pos spos : Pos} {items : List PV} {kp : PV → Bool} {f : PV → PV} {Vc : Vars} (hy : C.St y)
    (hsw : swapsWith (.ListComp elt [⟨.Name x px, iter, ifs, 0⟩] scope pos) (some (.Name y py)) spos.line C.env = pure true)
    (co : CompOk C V Vc scope x) (hi : It C V M iter items) (hsz : items.length ≤ sizeLine)
    (hbody : ∀ Ca, ∀ p ∈ items, CT (compCx C scope Ca) ((x, p) :: Vc) [] ifs (kp p) ∧ (kp p = true → EV (compCx C scope Ca) ((x, p) :: Vc) [] elt (f p)))
    (hs : ∀ x, foldedSetIterable iter C.env x = pure x) (h : K .next ((y, .list ((items.filter kp).map f)) :: V) M) :
    EX1 C V M (.Assign [.Name y py] (.ListComp elt [⟨.Name x px, iter, ifs, 0⟩] scope pos) spos) K := fun ok B s Q E hE tk k => by
  rw [exec_Assign_Name_used _ _ _ _ hsw]
  refine wpAny_bind (wpAny_standAt (wpAny_bind ?_))
  show wpAny _ C.A (do let _ ← comprehension (.ListComp elt [⟨.Name x px, iter, ifs, 0⟩] scope pos) scope C.env _ (PySem.newList []) false (eval iter C.env) (some (PySem.assign (.Name y py) C.env))) _ _ s
  refine wpAny_bind (wpAny_mono (wpAny_comprehension_free (use := some (PySem.assign (.Name y py) C.env)) (Q := fun _ s' => Q .next s') rfl hs (closureFor_cl co.free) co.kind co.names
    (comp_run (RR := fun acc Ca => compPost (model C.prog C.w) C.A E (some (PySem.assign (.Name y py) C.env)) (fun _ s' => Q .next s') acc Ca) co hi hsz hbody ok hE tk fun D Ca ys n m h' t' hD hCa hne kp hDv hr hns => ?_)) (fun _ s' hq => wpAny_pure (wpAny_pure hq)) fun _ _ e => e)
  show wpAny _ C.A (PySem.assign (.Name y py) C.env (.ref D)) _ _ _
  refine wpAny_assign_Name (wp_store_over ok hy hE kp hCa hns (l := .list ((items.filter _).map f)) ⟨D, ys, n, rfl, vis_of hDv fun q => ?_, hr⟩ fun h2 t2 e2 => k .next .next _ _ h2 t2 e2 rfl h)
  rcases List.mem_cons.mp q with q | q
  · exact hne q
  · exact hE.fresh hD q

theorem EX1.append {x : Str} {np ap pos spos : Pos} {e : Expr} {a : Addr} {M₁ M₂ : Owns} {l : List PV} {p : PV} (hx : EV C V (M₁ ++ (a, .list l) :: M₂) (.Name x np) (.at a)) (hs : starEach [e] C.env = [(false, eval e C.env)]) (he : EV C V (M₁ ++ (a, .list l) :: M₂) e p) (hl : l.length ≤ sizeLine)
    (hbase : attributeBase (.Name x np) (Str.ofString "append") C.env (eval (.Name x np) C.env) = eval (.Name x np) C.env) (hline : (ap.endLine == pos.line) = true) (hi : interactive C.env = false) (hsw : swapsWith (.Call (.Attribute (.Name x np) (Str.ofString "append") ap) [e] [] pos) none spos.line C.env = pure false)
    (h : K .next V (M₁ ++ (a, .list (l ++ [p])) :: M₂)) : EX1 C V (M₁ ++ (a, .list l) :: M₂) (.Expr (.Call (.Attribute (.Name x np) (Str.ofString "append") ap) [e] [] pos) spos) K := fun ok B s Q E hE tk k => by
  refine wpAny_Expr ?_ hi hsw
  refine Call_method1 hbase hs hline (hx.then ok hE tk fun v h1 t1 k1 e1 p1 r1 => ?_)
  cases r1
  have hin : (a, MO.list l) ∈ M₁ ++ (a, MO.list l) :: M₂ := List.mem_append_right _ List.mem_cons_self
  obtain ⟨⟨vs, n, q, r⟩, _, _⟩ := e1.own _ hin
  refine ⟨"list", "list.append", mth_append.pa, mth_append.slot, mth_append.ty, ⟨_, q, rfl⟩, fun b z => by cases z; exact ⟨_, q, rfl⟩, ?_⟩
  refine Calls.callWith_builtin rfl (Calls.evalArgs_plain (Calls.spliced_cons (he.then ok (s := { s with heap := h1, toks := t1 }) e1 p1 fun y h2 t2 k2 e2 p2 r2 => Calls.spliced_nil ?_)))
  obtain ⟨⟨vs, n, q, r⟩, _, _⟩ := e2.own _ hin
  have q' : h2.get? a = some (listObj vs n) := q
  refine call_meets slot_list_append ⟨_, q', rfl⟩ F.entry_list_append (F.args_list_append_2 _ _) (AutoListH.list_append_list_val_0 a vs.toArray n y (by rw [List.size_toArray, r.len]; exact hl)) ⟨q', ?_⟩
  have hs7 : Heap.SameBut a h2 (h2.update a (Obj.mapSeq fun a => a.push y)) := Heap.SameBut.update ..
  obtain ⟨k', hD7⟩ : ∃ k', (h2.update a (Obj.mapSeq fun a => a.push y)).get? a = some (listObj (vs ++ [y]) k') :=
    ⟨_, (Heap.get?_update_self _ q' rfl).trans (by show some (Obj.mk _ _ (Data.seq (vs.toArray.push y) _) _) = some (Obj.mk _ _ (Data.seq (vs ++ [y]).toArray _) _); rw [List.push_toArray])⟩
  have hl7 : LookLe (C.look B (M₁ ++ (a, .list l) :: M₂) h2) (C.look B (M₁ ++ (a, .list l) :: M₂) (h2.update a (Obj.mapSeq fun a => a.push y))) := vis_but (fun c o n e => hs7.extBut c o n e) (List.mem_append_left _ (List.mem_map.mpr ⟨_, hin, rfl⟩))
  have e7 := e2.upd (m' := .list (l ++ [p])) hs7 ⟨_, k', hD7, RepL.snoc (RepL.mono hl7 _ r) (r2.get hl7)⟩
  exact k .next .next _ _ _ t2 e7 rfl h
end
end Mine

/-! LayH -/
namespace Mine
open PySem PySem.W PySem.Calls PyProof.Rows
set_option Elab.async false
section
variable {C : Cx} {V : Vars} {M : Owns} {K : Cont}

theorem Bi.notIn_str {a b : Str} : Bi C V M (compareOp .NotIn) (.str a) (.str b) (.bool (!Txt.contains b a)) := fun ok B _ _ s Q E hE tk r1 r2 k => by
  obtain ⟨t, rfl⟩ := r1; obtain ⟨u, rfl⟩ := r2
  exact SB.notContains (k _ s.heap s.toks .rfl rfl)
theorem Bi.in_str {a b : Str} : Bi C V M (compareOp .In) (.str a) (.str b) (.bool (Txt.contains b a)) := fun ok B _ _ s Q E hE tk r1 r2 k => by
  obtain ⟨t, rfl⟩ := r1; obtain ⟨u, rfl⟩ := r2
  exact SB.contains (k _ s.heap s.toks .rfl rfl)
theorem Bi.is_bool {a b : Bool} : Bi C V M (compareOp .Is) (.bool a) (.bool b) (.bool (a == b)) := fun ok B _ _ s Q E hE tk r1 r2 k => by
  cases r1; cases r2
  exact PyProof.Rows.is_bool (k _ s.heap s.toks .rfl rfl)
theorem Bi.ne_bool {a b : Bool} : Bi C V M (compareOp .NotEq) (.bool a) (.bool b) (.bool (a != b)) := fun ok B _ _ s Q E hE tk r1 r2 k => by
  cases r1; cases r2
  exact PyProof.Rows.ne_bool (k _ s.heap s.toks .rfl rfl)
theorem Bi.ge_int {a b : Int} : Bi C V M (compareOp .GtE) (.int a) (.int b) (.bool (decide (b ≤ a))) := fun ok B _ _ s Q E hE tk r1 r2 k => by
  obtain ⟨t, rfl⟩ := r1; obtain ⟨u, rfl⟩ := r2
  exact PyProof.Rows.ge_int (k _ s.heap s.toks .rfl rfl)
theorem Bi.ne_int {a b : Int} : Bi C V M (compareOp .NotEq) (.int a) (.int b) (.bool (a != b)) := fun ok B _ _ s Q E hE tk r1 r2 k => by
  obtain ⟨t, rfl⟩ := r1; obtain ⟨u, rfl⟩ := r2
  exact PyProof.Rows.ne_int (k _ s.heap s.toks .rfl rfl)
theorem Bi.iadd_str {a b : Str} (hz : a.length + b.length ≤ sizeLine) : Bi C V M (inplaceOp .Add) (.str a) (.str b) (.str (a ++ b)) := fun ok B _ _ s Q E hE tk r1 r2 k => by
  obtain ⟨t, rfl⟩ := r1; obtain ⟨u, rfl⟩ := r2
  exact SB.iadd (fun t' tk => k _ s.heap tk .rfl ⟨_, rfl⟩) hz
theorem Bi.iadd_int {a b : Int} : Bi C V M (inplaceOp .Add) (.int a) (.int b) (.int (a + b)) := fun ok B _ _ s Q E hE tk r1 r2 k => by
  obtain ⟨t, rfl⟩ := r1; obtain ⟨u, rfl⟩ := r2
  exact PySem.P.iadd_int (k _ s.heap (s.toks + 1) .rfl ⟨_, rfl⟩)
theorem Bi.isub_int {a b : Int} : Bi C V M (inplaceOp .Sub) (.int a) (.int b) (.int (a - b)) := fun ok B _ _ s Q E hE tk r1 r2 k => by
  obtain ⟨t, rfl⟩ := r1; obtain ⟨u, rfl⟩ := r2
  exact PySem.P.isub_int (k _ s.heap (s.toks + 1) .rfl ⟨_, rfl⟩)
theorem Bi.pow_int {a b : Int} (h1 : b ≥ 0) (h2 : ¬(b == 0) = true) (h3 : ¬(a == 0 || a == 1) = true) (h4 : ¬(a == -1) = true) (h5 : ¬Builtin.Int.intTooBig ((Builtin.Int.intBits a : Int) * b) = true) :
    Bi C V M (binaryOp .Pow) (.int a) (.int b) (.int (a ^ b.toNat)) := fun ok B _ _ s Q E hE tk r1 r2 k => by
  obtain ⟨t, rfl⟩ := r1; obtain ⟨u, rfl⟩ := r2
  exact AutoIntOps.pow_4 h1 h2 h3 h4 h5 (k _ s.heap (s.toks + 1) .rfl ⟨_, rfl⟩)

theorem Tr.str {x : Str} (hz : x.length ≤ sizeLine) : Tr C V M (.str x) ((x.length : Int) != 0) := fun ok B a s Q E hE tk r k => by
  obtain ⟨t, rfl⟩ := r
  have : (sizeLine : Int) < 2 ^ 63 := by decide
  exact PySem.P.truthy_str (by omega) (k s.heap _ .rfl)
theorem Tr.list {l : List PV} (hz : l.length ≤ sizeLine) : Tr C V M (.list l) (!l.isEmpty) := fun ok B a s Q E hE tk r k => by
  obtain ⟨a, vs, n, rfl, q, r⟩ := r
  have : (sizeLine : Int) < 2 ^ 63 := by decide
  have e : (!vs.toArray.isEmpty) = !l.isEmpty := by have := r.len; cases vs <;> cases l <;> simp_all
  refine wpAny_truthy_list ⟨_, (vis_get q).1, rfl, n, rfl⟩ (by rw [List.size_toArray, r.len]; omega) ?_
  rw [e]
  exact k s.heap _ .rfl
theorem Bn.len_str {x : Str} (hz : x.length ≤ sizeLine) : Bn C V M "len" [.str x] (.int x.length) := fun ok B vs s Q E hE tk r k => by
  obtain ⟨v, r', rfl, ⟨t, rfl⟩, h2⟩ := r; cases h2
  have : (sizeLine : Int) < 2 ^ 63 := by decide
  exact SBL.len (by omega) (k _ s.heap (s.toks + 1 + 1) .rfl ⟨_, rfl⟩)
theorem Bn.len_list {l : List PV} (hz : l.length ≤ sizeLine) : Bn C V M "len" [.list l] (.int l.length) := fun ok B vs s Q E hE tk r k => by
  obtain ⟨v, r', rfl, ⟨a, vs, n, rfl, q, r⟩, h2⟩ := r; cases h2
  have : (sizeLine : Int) < 2 ^ 63 := by decide
  have e : (vs.toArray.size : Int) = (l.length : Int) := by rw [List.size_toArray, r.len]
  exact Calls.call_len_list (s := s) ⟨_, (vis_get q).1, rfl, n, rfl⟩ (by rw [e]; omega) (k _ s.heap (s.toks + 1 + 1) .rfl ⟨_, by rw [e]⟩)
theorem Bn.startswith {x y : Str} : Bn C V M "str.startswith" [.str x, .str y] (.bool (Txt.startswith x y)) := fun ok B vs s Q E hE tk r k => by
  obtain ⟨v, r', rfl, ⟨t, rfl⟩, v', r'', rfl, ⟨u, rfl⟩, h2⟩ := r; cases h2
  exact SC.startswith (k _ s.heap s.toks .rfl rfl)
theorem Bn.endswith {x y : Str} : Bn C V M "str.endswith" [.str x, .str y] (.bool (Txt.endswith x y)) := fun ok B vs s Q E hE tk r k => by
  obtain ⟨v, r', rfl, ⟨t, rfl⟩, v', r'', rfl, ⟨u, rfl⟩, h2⟩ := r; cases h2
  exact SC.endswith (k _ s.heap s.toks .rfl rfl)
theorem Bn.count {x y : Str} : Bn C V M "str.count" [.str x, .str y] (.int (Txt.count x y)) := fun ok B vs s Q E hE tk r k => by
  obtain ⟨v, r', rfl, ⟨t, rfl⟩, v', r'', rfl, ⟨u, rfl⟩, h2⟩ := r; cases h2
  exact SC.count (k _ s.heap (s.toks + 1) .rfl ⟨_, rfl⟩)
theorem Bn.upper {x : Str} (hf : Builtin.Str.tooLong (Txt.upper x).length = false) : Bn C V M "str.upper" [.str x] (.str (Txt.upper x)) := fun ok B vs s Q E hE tk r k => by
  obtain ⟨v, r', rfl, ⟨t, rfl⟩, h2⟩ := r; cases h2
  exact SC.upper hf (k _ s.heap (s.toks + 1) .rfl ⟨_, rfl⟩)
theorem Bn.lower {x : Str} (hf : Builtin.Str.tooLong (Txt.lower x).length = false) : Bn C V M "str.lower" [.str x] (.str (Txt.lower x)) := fun ok B vs s Q E hE tk r k => by
  obtain ⟨v, r', rfl, ⟨t, rfl⟩, h2⟩ := r; cases h2
  exact SC.lower hf (k _ s.heap (s.toks + 1) .rfl ⟨_, rfl⟩)
theorem Bn.ord {c : Nat} : Bn C V M "ord" [.str ⟨#[c]⟩] (.int c) := fun ok B vs s Q E hE tk r k => by
  obtain ⟨v, r', rfl, ⟨t, rfl⟩, h2⟩ := r; cases h2
  exact PySem.P.ord_of_char (k _ s.heap (s.toks + 1) .rfl ⟨_, rfl⟩)

end
end Mine

/-! LayI -/
namespace Mine
open PySem PySem.W PySem.Calls PyProof.Rows
set_option Elab.async false
section
variable {C : Cx} {V : Vars} {M : Owns} {K : Cont}

theorem mth_find : Mth "str" "find" "str.find" := ⟨F.plainAttrs_str, F.slot_str_find, by exact F.type_str_find⟩
theorem mth_split : Mth "str" "split" "str.split" := ⟨F.plainAttrs_str, F.slot_str_split, by exact F.type_str_split⟩
theorem mth_join : Mth "str" "join" "str.join" := ⟨F.plainAttrs_str, F.slot_str_join, by exact F.type_str_join⟩
theorem mth_replace : Mth "str" "replace" "str.replace" := ⟨F.plainAttrs_str, F.slot_str_replace, by exact F.type_str_replace⟩
theorem mth_upper : Mth "str" "upper" "str.upper" := ⟨F.plainAttrs_str, F.slot_str_upper, by exact F.type_str_upper⟩
theorem mth_lower : Mth "str" "lower" "str.lower" := ⟨F.plainAttrs_str, F.slot_str_lower, by exact F.type_str_lower⟩
theorem mth_count : Mth "str" "count" "str.count" := ⟨F.plainAttrs_str, F.slot_str_count, by exact F.type_str_count⟩
theorem mth_startswith : Mth "str" "startswith" "str.startswith" := ⟨F.plainAttrs_str, F.slot_str_startswith, by exact F.type_str_startswith⟩
theorem mth_endswith : Mth "str" "endswith" "str.endswith" := ⟨F.plainAttrs_str, F.slot_str_endswith, by exact F.type_str_endswith⟩
theorem mth_get : Mth "dict" "get" "dict.get" := ⟨F.plainAttrs_dict, F.slot_dict_get, by exact F.type_dict_get⟩

/-- where y stands first in x from i up to j -/
def findTo (x y : Str) (i j : Int) : Int := match Builtin.Str.occurrences x y (fromIndex x.length i) (min (fromIndex x.length j) x.length) 1 with | k :: _ => (k : Int) | [] => -1
def findFrom (x y : Str) (i : Int) : Int := match Builtin.Str.occurrences x y (fromIndex x.length i) x.length 1 with | k :: _ => (k : Int) | [] => -1
open Builtin Builtin.Str in
theorem gives_find4 (x y : Str) (i j : Int) (t u v z : Tok) : Gives («str.find» ⟨[.str x t, .str y u, .int i v, .int j z], []⟩) (.int (findTo x y i j)) := by
  show Gives (match occurrences x y (fromIndex x.length i) (min (fromIndex x.length j) x.length) 1 with | k :: _ => retInt k | [] => (do rule "str.find.not-found"; retInt (-1))) _
  unfold findTo
  cases occurrences x y (fromIndex x.length i) (min (fromIndex x.length j) x.length) 1 with
  | nil => exact .rule (.of_eq rfl)
  | cons k _ => exact .of_eq rfl
theorem Bn.find4 {x y : Str} {i j : Int} : Bn C V M "str.find" [.str x, .str y, .int i, .int j] (.int (findTo x y i j)) := fun ok B vs s Q E hE tk r k => by
  obtain ⟨v, r', rfl, ⟨t, rfl⟩, v', r'', rfl, ⟨u, rfl⟩, v2, r2, rfl, ⟨u2, rfl⟩, v3, r3, rfl, ⟨u3, rfl⟩, h2⟩ := r; cases h2
  exact call_gives F.slot_str_find (typeIs_str _ _ _) F.entry_str_find (F.args_str_find_4 _ _ _ _) (gives_find4 x y i j t u u2 u3) (k _ s.heap (s.toks + 1) .rfl ⟨_, rfl⟩)
theorem Bn.find3 {x y : Str} {i : Int} : Bn C V M "str.find" [.str x, .str y, .int i] (.int (findFrom x y i)) := fun ok B vs s Q E hE tk r k => by
  obtain ⟨v, r', rfl, ⟨t, rfl⟩, v', r'', rfl, ⟨u, rfl⟩, v2, r2, rfl, ⟨u2, rfl⟩, h2⟩ := r; cases h2
  exact call_gives F.slot_str_find (typeIs_str _ _ _) F.entry_str_find (F.args_str_find_3 _ _ _) (gives_str_find_from x y i t u u2) (k _ s.heap (s.toks + 1) .rfl ⟨_, rfl⟩)

theorem RepL.strs {P : Params} {L : Look} : ∀ {texts : List Str} {vs : List Value}, RepL P L (texts.map .str) vs → ∃ l : List (Str × Tok), vs = strValues l ∧ l.map (·.1) = texts
  | [], _, h => by cases h; exact ⟨[], rfl, rfl⟩
  | x :: xs, _, h => by
    obtain ⟨v, r, rfl, ⟨t, rfl⟩, h2⟩ := h
    obtain ⟨l, rfl, e⟩ := RepL.strs h2
    exact ⟨(x, t) :: l, rfl, by rw [List.map_cons, e]⟩
theorem RepL.ofStrs {P : Params} {L : Look} : ∀ (l : List (Str × Tok)), RepL P L ((l.map (·.1)).map .str) (strValues l)
  | [] => rfl
  | (x, t) :: l => ⟨_, _, rfl, ⟨t, rfl⟩, RepL.ofStrs l⟩
theorem listObj_of {h : Heap} {a : Addr} {vs : List Value} {n : Nat} (e : h.get? a = some (listObj vs n)) : h.IsList a vs.toArray := ⟨_, e, rfl, n, rfl⟩
theorem listObj_to {h : Heap} {a : Addr} {vs : List Value} (x : h.IsList a vs.toArray) : ∃ n c, h.get? a = some c ∧ c.cls = .type "list" ∧ c.data = .seq vs.toArray n := by
  obtain ⟨o, e, h1, n, h2⟩ := x; exact ⟨n, o, e, h1, h2⟩
theorem Bn.join {x : Str} {texts : List Str} (hk : JoinOk x texts = true) : Bn C V M "str.join" [.str x, .list (texts.map .str)] (.str (Txt.join x texts)) := fun ok B vs s Q E hE tk r k => by
  obtain ⟨v, r', rfl, ⟨t, rfl⟩, v', r'', rfl, ⟨a, ws, n, rfl, q, r⟩, h2⟩ := r; cases h2
  obtain ⟨l, rfl, e⟩ := RepL.strs r
  exact SC.join (s := s) (listObj_of (vis_get q).1) e hk fun t' k' => k _ s.heap k' .rfl ⟨_, rfl⟩

/-- the two cut-out texts of a replace stand in the text of the program -/
theorem EV.replaceC {o : Expr} {apos pos cp1 cp2 : Pos} {ck1 ck2 : Nat} {x y z : Str} (ho : EV C V M o (.str x)) (hbase : attributeBase o (Str.ofString "replace") C.env (eval o C.env) = eval o C.env) (hline : (apos.endLine == pos.line) = true)
    (hb : x.length + (x.length + 1) * z.length ≤ 16777216) : EV C V M (.Call (.Attribute o (Str.ofString "replace") apos) [.Constant (.str y) ck1 cp1, .Constant (.str z) ck2 cp2] [] pos) (.str (Txt.replace x y z)) := fun ok B s Q E hE tk k => by
  refine wpAny_Call_method_lateS hbase rfl hline (ho.then ok hE tk fun v h1 t1 k1 e1 p1 r1 => ?_)
  obtain ⟨t, rfl⟩ := r1
  refine ⟨"str", "str.replace", mth_replace.pa, mth_replace.slot, mth_replace.ty, typeIs_str _ _ _, (fun _ e => nomatch e), ?_⟩
  refine Calls.callWith_builtin rfl (Calls.evalArgs_plain (Calls.spliced_cons (wpAny_Constant_str (k := ck1) (pos := cp1) (Calls.spliced_cons (wpAny_Constant_str (k := ck2) (pos := cp2) (Calls.spliced_nil ?_))))))
  exact SC.replaceA (Nat.pos_iff_ne_zero.mp p1) (Nat.succ_ne_zero _) (Nat.ne_of_lt (Nat.lt_succ_self _)) hb (fun t' k' => k _ h1 k' k1 ⟨_, rfl⟩) e1.G.nb

theorem new_list {B : Bs} {h : Heap} {vs : List Value} {n : Nat} {l : List PV} (hE : Est C B V M h) (r : RepL C.w.params (C.look B M (h.push (listObj vs n))) l vs) : Rep C.w.params (C.look B M (h.push (listObj vs n))) (.list l) (.ref h.objs.size) :=
  ⟨_, vs, n, rfl, vis_of (Heap.get?_push_size _ rfl) (hE.fresh (get_size h)), r⟩
theorem new_tup {B : Bs} {h : Heap} {vs : List Value} {n : Nat} {l : List PV} (hE : Est C B V M h) (r : RepL C.w.params (C.look B M (h.push (tupObj vs n))) l vs) : Rep C.w.params (C.look B M (h.push (tupObj vs n))) (.tup l) (.ref h.objs.size) :=
  ⟨_, vs, n, rfl, vis_of (Heap.get?_push_size _ rfl) (hE.fresh (get_size h)), r⟩
open Builtin Builtin.Str in
theorem Bn.split {x y : Str} (hy : (y.length == 0) = false) (hsz : x.length ≤ sizeLine) (hsz2 : (Builtin.Str.partsBetween x (Builtin.Str.occurrences x y 0 x.length (x.length + 1)) y.length).length ≤ sizeLine) : Bn C V M "str.split" [.str x, .str y] (.list ((Txt.split x y).map .str)) := fun ok B vs s Q E hE tk r k => by
  obtain ⟨v, r', rfl, ⟨t, rfl⟩, v', r'', rfl, ⟨u, rfl⟩, h2⟩ := r; cases h2
  have fin : ∀ (l : List (Str × Tok)) (tk' : Nat), l.map (·.1) = Txt.split x y → Q (.ref s.heap.objs.size) { s with heap := s.heap.push (listObj (strValues l) 0), toks := tk' } := fun l tk' e => by
    rw [← e] at k
    exact k _ _ tk' (Keep.rfl.push _) (new_list hE (RepL.ofStrs l))
  cases h1 : (decide (x.length < y.length) || decide (strKind x < strKind y))
  · cases hf : (occurrences x y 0 x.length (x.length + 1)).isEmpty
    · refine call_meets F.slot_str_split (typeIs_str _ _ _) F.entry_str_split (F.args_str_split_2 _ _) (meets_str_split_sep x y t u h1 hy hf hsz hsz2) ?_
      show wants Q E _ { s with toks := _, heap := s.heap.push { cls := .type "list", data := .seq (strsFrom s.toks (partsBetween x (occurrences x y 0 x.length (x.length + 1)) y.length)).toArray } }
      rw [strsFrom_eq]
      exact fin (numbered s.toks _) _ ((numbered_texts _ _).trans ((if_neg (ne_true_of_eq_false h1)).trans (if_neg (ne_true_of_eq_false hf))).symm)
    · exact call_meets F.slot_str_split (typeIs_str _ _ _) F.entry_str_split (F.args_str_split_2 _ _) (meets_str_split_not_found x y t u h1 hy hf)
        (fin [(x, t)] _ ((if_neg (ne_true_of_eq_false h1)).trans (if_pos hf)).symm)
  · exact call_meets F.slot_str_split (typeIs_str _ _ _) F.entry_str_split (F.args_str_split_2 _ _) (meets_str_split_cannot_occur x y t u h1)
      (fin [(x, t)] _ (if_pos h1).symm)

/-- an item told by a key -/
def Ix (C : Cx) (V : Vars) (M : Owns) (p q r : PV) : Prop :=
  C.Ok → ∀ (B : Bs) (a b : Value) (s : Shared) (Q : Value → Shared → Prop) (E : Value → Shared → Prop), Est C B V M s.heap → 0 < s.toks → Rep C.w.params (C.look B M s.heap) p a → Rep C.w.params (C.look B M s.heap) q b →
    (∀ v h' t', Keep s.heap h' → Rep C.w.params (C.look B M h') r v → Q v { s with heap := h', toks := t' }) → ItemOn (model C.prog C.w) C.A E a b Q s
theorem EV.sub {value slice : Expr} {pos : Pos} {p q r : PV} (hv : EV C V M value p) (hq : EV C V M slice q) (h : Ix C V M p q r) (hs : ∀ o i, ∃ ops, subscripted slice false o i = operate ops (getItem o i) := by exact fun _ _ => ⟨_, rfl⟩) : EV C V M (.Subscript value slice pos) r := fun ok B s Q E hE tk k => by
  refine PyProof.Rows.Subscript_ (hv.then ok hE tk fun a h1 t1 k1 e1 p1 r1 => ?_)
  refine hq.then ok (s := { s with heap := h1, toks := t1 }) e1 p1 fun b h2 t2 k2 e2 p2 r2 => ?_
  obtain ⟨T, id, hl, hT, hg⟩ := h ok B a b { s with heap := h2, toks := t2 } Q E e2 p2 (r1.get (vis_keep k2)) r2 fun v h3 t3 k3 r3 => k v h3 t3 (k1.trans (k2.trans k3)) r3
  obtain ⟨ops, ho⟩ := hs a b
  exact tail_any hT hl hg ho

theorem Ix.list {l : List PV} {i : Int} {p : PV} (h0 : 0 ≤ i) (hx : l[i.toNat]? = some p) (hf : i < 2 ^ 63) : Ix C V M (.list l) (.int i) p := fun ok B a b s Q E hE tk r1 r2 k => by
  obtain ⟨a, vs, n, rfl, q, r⟩ := r1; obtain ⟨u, rfl⟩ := r2
  obtain ⟨v, e, rv⟩ := r.get hx
  have hl : s.heap.IsList a vs.toArray := listObj_of (vis_get q).1
  exact ⟨"list", _, slot_list_getitem.lookup, hl.typeIs, wpAny_getItem_list hl h0 hf (by simpa using e) (k v s.heap s.toks .rfl rv)⟩
theorem Ix.listNeg {l : List PV} {i : Int} {p : PV} (h0 : i < 0) (h1 : -(l.length : Int) ≤ i) (h2 : -2 ^ 63 ≤ i) (hx : l[(i + l.length).toNat]? = some p) : Ix C V M (.list l) (.int i) p := fun ok B a b s Q E hE tk r1 r2 k => by
  obtain ⟨a, vs, n, rfl, q, r⟩ := r1; obtain ⟨u, rfl⟩ := r2
  obtain ⟨v, e, rv⟩ := r.get hx
  have hl : s.heap.IsList a vs.toArray := listObj_of (vis_get q).1
  exact ⟨"list", _, slot_list_getitem.lookup, hl.typeIs, wpAny_getItem_list_neg hl h0 (by rw [List.size_toArray, r.len]; exact h1) h2 (by rw [List.size_toArray, r.len]; simpa using e) (k v s.heap s.toks .rfl rv)⟩
theorem Ix.own {a : Addr} {l : List PV} {i : Int} {p : PV} (hm : (a, MO.list l) ∈ M) (h0 : 0 ≤ i) (hx : l[i.toNat]? = some p) (hf : i < 2 ^ 63) : Ix C V M (.at a) (.int i) p := fun ok B a' b s Q E hE tk r1 r2 k => by
  cases r1; obtain ⟨u, rfl⟩ := r2
  obtain ⟨⟨vs, n, q, r⟩, _⟩ := hE.own _ hm
  obtain ⟨v, e, rv⟩ := r.get hx
  have hl : s.heap.IsList a vs.toArray := listObj_of q
  exact ⟨"list", _, slot_list_getitem.lookup, hl.typeIs, wpAny_getItem_list hl h0 hf (by simpa using e) (k v s.heap s.toks .rfl rv)⟩
theorem Ix.str {x : Str} {i : Int} (hf : fitsSsize i = true) (hc : (Txt.charAt x i).isSome = true) : Ix C V M (.str x) (.int i) (.str (Txt.item x i)) := fun ok B a b s Q E hE tk r1 r2 k => by
  obtain ⟨t, rfl⟩ := r1; obtain ⟨u, rfl⟩ := r2
  exact SB.item hf hc (k _ s.heap (s.toks + 1) .rfl ⟨_, rfl⟩)

theorem RepD.kvs {P : Params} {L : Look} : ∀ {l : List (Str × PV)} {es : List DictEntry}, RepD P L l es → ∀ x, match l.lookup x with
    | some p => ∃ e, es.find? (fun e => Value.isStrOf x e.key) = some e ∧ Rep P L p e.val
    | none => es.find? (fun e => Value.isStrOf x e.key) = none
  | [], _, h, x => by cases h; rfl
  | (y, p) :: l, _, h, x => by
    obtain ⟨t, v, r, rfl, h1, h2⟩ := h
    have ih := h2.kvs x
    rw [lookup_cons_of]
    by_cases q : x = y
    · subst q
      rw [if_pos rfl]
      exact ⟨_, List.find?_cons_of_pos (by simp [Value.isStrOf]), h1⟩
    · rw [if_neg q, List.find?_cons_of_neg (by simp [Value.isStrOf, Ne.symm q])]
      exact ih
theorem dict_map {prog : Program} {w : World} {L : Look} {h : Heap} {a : Addr} {es : List DictEntry} {n : Nat} {l : List (Str × PV)} (e : h.get? a = some (dictOf es n)) (r : RepD w.params L l es) : h.MapOf (PySem.strKind prog w) a (findBy Value.isStrOf es.toArray) := by
  refine ⟨_, es.toArray, n, e, ⟨rfl, rfl, rfl⟩, rfl, fun d hd => ?_, fun k => rfl⟩
  have hd' : d ∈ es := by simpa using hd
  clear e hd
  induction l generalizing es with
  | nil => cases r; cases hd'
  | cons q l ih =>
    obtain ⟨y, p⟩ := q
    obtain ⟨t, v, r', rfl, h1, h2⟩ := r
    rcases List.mem_cons.mp hd' with z | z
    · subst z
      exact ⟨y, by simp [PySem.strKind, Value.isStrOf], rfl⟩
    · exact ih h2 z
theorem Ix.dict {l : List (Str × PV)} {x : Str} {p : PV} (hx : l.lookup x = some p) : Ix C V M (.dict l) (.str x) p := fun ok B a b s Q E hE tk r1 r2 k => by
  obtain ⟨a, es, n, rfl, hs, q, r⟩ := r1; obtain ⟨u, rfl⟩ := r2
  have z := r.kvs x
  rw [hx] at z
  obtain ⟨e, h1, h2⟩ := z
  have hm := dict_map (prog := C.prog) (vis_get q).1 r
  refine ⟨"dict", _, slot_dict_getitem.lookup, hm.typeIs, wpAny_getItem_of (k := x) (v := e.val) (by simp [PySem.strKind, Value.isStrOf]) hm ?_ (k _ s.heap (s.toks + 1) .rfl h2)⟩
  simp [findBy, h1]
theorem Bi.in_dict {l : List (Str × PV)} {x : Str} : Bi C V M (compareOp .In) (.str x) (.dict l) (.bool (l.lookup x).isSome) := fun ok B _ _ s Q E hE tk r1 r2 k => by
  obtain ⟨t, rfl⟩ := r1; obtain ⟨a, es, n, rfl, hs, q, r⟩ := r2
  have hm := dict_map (prog := C.prog) (vis_get q).1 r
  have z := r.kvs x
  refine wpAny_in_of (k := x) (by simp [PySem.strKind, Value.isStrOf]) hs hm (k _ s.heap (s.toks + 1) .rfl ?_)
  show Value.bool _ = Value.bool _
  congr 1
  cases hx : l.lookup x with
  | none => rw [hx] at z; simp [findBy, z]
  | some p => rw [hx] at z; obtain ⟨e, h1, _⟩ := z; simp [findBy, h1]
theorem Bi.notIn_dict {l : List (Str × PV)} {x : Str} : Bi C V M (compareOp .NotIn) (.str x) (.dict l) (.bool (!(l.lookup x).isSome)) := fun ok B _ _ s Q E hE tk r1 r2 k => by
  obtain ⟨t, rfl⟩ := r1; obtain ⟨a, es, n, rfl, hs, q, r⟩ := r2
  have hm := dict_map (prog := C.prog) (vis_get q).1 r
  have z := r.kvs x
  refine wpAny_notIn_of (k := x) (by simp [PySem.strKind, Value.isStrOf]) hs hm (k _ s.heap (s.toks + 1) .rfl ?_)
  show Value.bool _ = Value.bool _
  congr 2
  cases hx : l.lookup x with
  | none => rw [hx] at z; simp [findBy, z]
  | some p => rw [hx] at z; obtain ⟨e, h1, _⟩ := z; simp [findBy, h1]
theorem Bn.get2 {l : List (Str × PV)} {x : Str} {d : PV} : Bn C V M "dict.get" [.dict l, .str x, d] ((l.lookup x).getD d) := fun ok B vs s Q E hE tk r k => by
  obtain ⟨v, r', rfl, ⟨a, es, n, rfl, hs, q, r⟩, v', r'', rfl, ⟨u, rfl⟩, v3, r3, rfl, rd, h2⟩ := r; cases h2
  have hm := dict_map (prog := C.prog) (vis_get q).1 r
  have z := r.kvs x
  refine call_meetsIn F.slot_dict_get hm.typeIs F.entry_dict_get (F.args_dict_get_3 _ _ _) (meets_dict_get_default (PySem.strKind C.prog C.w) a (k := x) (by simp [PySem.strKind, Value.isStrOf]) hs v3) ⟨_, hm, k _ s.heap (s.toks + 1) .rfl ?_⟩
  cases hx : l.lookup x with
  | none => rw [hx] at z; simpa [findBy, z] using rd
  | some p => rw [hx] at z; obtain ⟨e, h1, h2⟩ := z; simpa [findBy, h1] using h2

theorem EV.ifExp {test body orelse : Expr} {pos : Pos} {b : Bool} {p : PV} (ht : ET C V M test b) (h1 : b = true → EV C V M body p) (h2 : b = false → EV C V M orelse p) : EV C V M (.IfExp test body orelse pos) p := fun ok B s Q E hE tk k => by
  refine wpAny_IfExp (ht.then ok hE tk fun h' t' kp e1 p1 => ?_)
  cases b
  · exact h2 rfl ok B { s with heap := h', toks := t' } Q E e1 p1 fun v h2 t2 k2 r2 => k v h2 t2 (kp.trans k2) r2
  · exact h1 rfl ok B { s with heap := h', toks := t' } Q E e1 p1 fun v h2 t2 k2 r2 => k v h2 t2 (kp.trans k2) r2
theorem SN.list {es : List Expr} {pos : Pos} {ps : List PV} (hs : starEach es C.env = es.map fun e => (false, eval e C.env)) (h : EVs C V M es ps) (hl : es.length ≤ sizeLine) : SN C V M (eval (.List es pos) C.env) ps := fun ok B s Q E hE tk k => by
  refine wpAny_List ?_
  rw [hs]
  refine h.run ok hE tk fun vs h' t' kp e1 p1 r => ⟨by rw [r.len, h.len]; exact hl, ?_⟩
  refine k _ vs 0 _ t' ?_ (Heap.get?_push_size _ rfl) (RepL.mono (vis_keep (Keep.rfl.push _)) _ r) (kp.push _)
  cases q : s.heap.get? h'.objs.size with
  | none => rfl
  | some o => have := kp _ _ q; rw [get_size] at this; cases this
theorem EV.tuple {es : List Expr} {k : Nat} {pos : Pos} {ps : List PV} (hs : starEach es C.env = es.map fun e => (false, eval e C.env)) (h : EVs C V M es ps) (hl : es.length ≤ sizeLine) : EV C V M (.Tuple es k pos) (.tup ps) := fun ok B s Q E hE tk k => by
  refine wpAny_Tuple ?_
  rw [hs]
  refine h.run ok hE tk fun vs h' t' kp e1 p1 r => ⟨by rw [r.len, h.len]; exact hl, ?_⟩
  exact k _ _ t' (kp.push _) (new_tup (n := 0) e1 (RepL.mono (vis_keep (Keep.rfl.push _)) _ r))
end
end Mine

/-! LayJ -/
namespace Mine
open PySem PySem.W PySem.Calls PyProof.Rows
set_option Elab.async false
section
variable {C : Cx} {V : Vars} {M : Owns} {K : Cont}

theorem Est.base_rebase {B : Bs} {h : Heap} (x : Est C B V M h) : LookLe (vis B.h₀ (C.hb B)) (vis (hideAll h (C.own M)) (C.hb ⟨hideAll h (C.own M), B.X⟩)) := fun a o e => by
  obtain ⟨e1, n⟩ := vis_get e
  have := x.strip_keep [] (fun _ q => nomatch q)
  rw [List.append_nil] at this
  exact vis_of (this a o e1) n

/-- a pair taken apart -/
theorem wp_pair {x y : Str} {px py tp : Pos} {kx : Nat} {p q : PV} {T : Addr} {v0 v1 : Value} {B : Bs} {s : Shared} {Q : Unit → Shared → Prop} {E : Value → Shared → Prop} (ok : C.Ok) (hx : C.St x) (hy : C.St y)
    (hE : Est C B V M s.heap) (tk : 0 < s.toks) (hT : s.heap.IsTuple T #[v0, v1]) (hp : Rep C.w.params (vis B.h₀ (C.hb B)) p v0) (hq : Rep C.w.params (vis B.h₀ (C.hb B)) q v1)
    (k : ∀ h' t', Est C B ((y, q) :: (x, p) :: V) M h' → 0 < t' → Q () { s with heap := h', toks := t' }) : wpAny (model C.prog C.w) C.A (assign (.Tuple [.Name x px, .Name y py] kx tp) C.env (.ref T)) Q E s := by
  refine wpAny_assign_Tuple ok.hh hT rfl rfl fun h₃ hx₃ => ?_
  have up₃ : Keep s.heap h₃ := fun b o x => hx₃ b o (Nat.ne_of_lt (Heap.lt_size x)) x
  have e3 := hE.kept up₃
  show wpAny _ C.A (do holding [v1] (assign (.Name x px) C.env v0); do holding [] (assign (.Name y py) C.env v1); pure ()) _ _ _
  refine wpAny_bind (wpAny_holding (wpAny_assign_Name (wpAny_tk (s := { s with heap := h₃ }) tk (wp_store ok (s := { s with heap := h₃ }) hx e3 (hp.get e3.base_look) fun h4 t4 e4 p4 => ?_))))
  refine wpAny_bind (wpAny_holding (wpAny_assign_Name (wpAny_tk (s := { s with heap := h4, toks := t4 }) p4 (wp_store ok (s := { s with heap := h4, toks := t4 }) hy e4 (hq.get e4.base_look) fun h5 t5 e5 p5 => ?_))))
  exact wpAny_pure (k h5 t5 e5 p5)

theorem seen_hide {B : Bs} {h1 : Heap} {wr : List Addr} : LookLe (vis h1 (wr ++ C.hid B M)) (vis (hideAll h1 (C.own M ++ wr)) (C.hb ⟨hideAll h1 (C.own M ++ wr), wr ++ B.X⟩)) := fun a o e => by
  obtain ⟨e1, n⟩ := vis_get e
  have nw : a ∉ wr := fun q => n (List.mem_append_left _ q)
  have nh : a ∉ C.hid B M := fun q => n (List.mem_append_right _ q)
  refine vis_of (hideAll_get _ e1 fun hm => ?_) fun hm => ?_
  · rcases List.mem_append.mp hm with q | q
    · rcases List.mem_append.mp q with q | q
      · exact nh (List.mem_append_left _ q)
      · rcases List.mem_cons.mp q with q | q
        · exact nh (List.mem_append_right _ (q ▸ List.mem_cons_self))
        · split at q
          · exact nh (List.mem_append_right _ (List.mem_cons_of_mem _ (List.mem_append_left _ q)))
          · cases q
    · exact nw q
  · rcases List.mem_cons.mp hm with q | q
    · exact nh (List.mem_append_right _ (q ▸ List.mem_cons_self))
    · rcases List.mem_append.mp q with q | q
      · exact nh (List.mem_append_right _ (List.mem_cons_of_mem _ (List.mem_append_left _ q)))
      · rcases List.mem_append.mp q with q | q
        · exact nw q
        · exact nh (List.mem_append_right _ (List.mem_cons_of_mem _ (List.mem_append_right _ q)))

/-- what e hands a loop, pair by pair -/
def ItP (C : Cx) (V : Vars) (M : Owns) (e : Expr) (items : List (PV × PV)) : Prop :=
  C.Ok → ∀ (B : Bs) (s : Shared) (Q : Value → Shared → Prop) (E : Value → Shared → Prop), Est C B V M s.heap → 0 < s.toks →
    (∀ I fp wr P St Mid h' t', Keep s.heap h' → WalksU C.prog C.w C.A I fp wr items.length P St Mid → St 0 h' → (∀ b ∈ wr, s.heap.get? b = none) → (∀ i h, St i h → ∀ b ∈ wr, ∃ o, h.get? b = some o) →
      (∀ b ∈ fp, b ∈ wr ∨ ∃ o, vis h' (wr ++ C.hid B M) b = some o) →
      (∀ i p q vals, items[i]? = some (p, q) → P i vals → ∃ v0 v1, vals = #[v0, v1] ∧ Rep C.w.params (vis h' (wr ++ C.hid B M)) p v0 ∧ Rep C.w.params (vis h' (wr ++ C.hid B M)) q v1) → 0 < t' → Q (.ref I) { s with heap := h', toks := t' }) →
    wpAny (model C.prog C.w) C.A (eval e C.env) (fun x s₁ => wpAny (model C.prog C.w) C.A (pyIter x) Q E s₁) E s

theorem EX1.forP {x y : Str} {px py tp pos : Pos} {kx : Nat} {iter : Expr} {body : List Stmt} {items : List (PV × PV)} (I : List (PV × PV) → Vars → Owns → Prop) (hx : C.env.kindOf x = some .local) (hy : C.env.kindOf y = some .local) (hi : ItP C V M iter items) (h0 : I [] V M)
    (turn : ∀ done p q rest V' M', items = done ++ (p, q) :: rest → I done V' M' → EX C ((y, q) :: (x, p) :: V') M' body (Turned K (I (done ++ [(p, q)]))))
    (fin : ∀ V' M', I items V' M' → K .next V' M') (hs : ∀ x, foldedSetIterable iter C.env x = pure x) : EX1 C V M (.For (.Tuple [.Name x px, .Name y py] kx tp) iter body [] pos) K := fun ok B s Q E hE tk k => by
  refine wpAny_For (hi ok B s _ E hE tk fun It fp wr P St Mid h1 t1 k1 W st0 hwf hlv hfp hP p1 => ?_) hs
  have hnh : ∀ b ∈ wr, b ∉ C.hid B M := fun b hb => hE.fresh (hwf b hb)
  have hwn : ∀ b ∈ wr, b ≠ C.env.locals ∧ ∀ p ∈ C.env.cells, b ≠ p.2 := fun b hb =>
    ⟨fun q => hnh b hb (List.mem_append_right _ (q ▸ List.mem_cons_self)), fun p hp q => hnh b hb (List.mem_append_right _ (List.mem_cons_of_mem _ (List.mem_append_left _ (q ▸ List.mem_map.mpr ⟨p, hp, rfl⟩))))⟩
  have hXw : ∀ a ∈ B.X, a ∉ wr := fun a ha hb => hnh a hb (List.mem_append_right _ (List.mem_cons_of_mem _ (List.mem_append_right _ ha)))
  have hbase : ∀ b ∈ wr, (hideAll h1 (C.own M ++ wr)).get? b = none := fun b hb => hideAll_none _ (List.mem_append_right _ hb)
  have E1 := hE.rebaseW k1 hwf (hlv 0 h1 st0)
  have kback : Keep B.h₀ (hideAll h1 (C.own M ++ wr)) := (hE.kept k1).strip_keep wr fun b hb => Bs.none_of hE.keep (hwf b hb)
  have seen : LookLe (vis h1 (wr ++ C.hid B M)) (vis (hideAll h1 (C.own M ++ wr)) (C.hb ⟨hideAll h1 (C.own M ++ wr), wr ++ B.X⟩)) := seen_hide
  refine codeAny_forLoop_any (fun n s' => ∃ done rest V' M' h' t', items = done ++ rest ∧ n = rest.length ∧ s' = { s with heap := h', toks := t' } ∧ I done V' M' ∧
    Est C ⟨hideAll h1 (C.own M ++ wr), wr ++ B.X⟩ V' M' h' ∧ 0 < t' ∧ St done.length h') ?_ items.length ⟨[], items, V, M, h1, t1, rfl, rfl, rfl, h0, E1, p1, st0⟩
  rintro n s' ⟨done, rest, V', M', h', t', hit, rfl, rfl, hI, e1, pt, st⟩
  cases rest with
  | nil =>
    rw [List.append_nil] at hit; subst hit
    refine wpAny_tk (s := { s with heap := h', toks := t' }) pt (W.done _ _ _ st fun h'' t'' kb pt2 => ?_)
    refine wpAny_execs_nil ?_
    have e2 := (e1.stepX kb hbase hwn hXw).weaken kback hE.g
    exact k .next .next V' M' h'' t'' e2 rfl (fin V' M' hI)
  | cons pq rest =>
    obtain ⟨p, q⟩ := pq
    refine wpAny_tk (s := { s with heap := h', toks := t' }) pt (W.item done.length _ _ _ (by rw [hit]; simp) st fun T vals h'' t'' hp hT hMid kb pt2 => ?_)
    obtain ⟨v0, v1, rfl, hr0, hr1⟩ := hP done.length p q vals (by rw [hit]; simp) hp
    refine wpAny_tk (s := { s with heap := h'', toks := t'' }) pt2 (W.go _ kx tp done.length T { s with heap := h'', toks := t'' } _ _ hMid fun h2 st' kb2 pt3 => ?_)
    have hT2 : h2.IsTuple T #[v0, v1] := by
      obtain ⟨o, z1, z2⟩ := hT
      exact ⟨o, kb2 _ _ (W.apart _ _ _ hMid) z1, z2⟩
    have e2 := e1.stepX' (h' := h2) (fun b o n e => kb2 b o n (kb b o n e)) hbase hwn hXw (hlv _ _ st')
    have e3 := e2.rebase
    refine wp_pair ok (s := { s with heap := h2, toks := t'' }) (.inl hx) (.inl hy) e3 pt3 hT2 (hr0.get (seen.trans e2.base_rebase)) (hr1.get (seen.trans e2.base_rebase)) fun h3 t3 e4 pt3 => ?_
    refine (turn done p q rest V' M' hit hI).then ok (s := { s with heap := h3, toks := t3 }) e4 pt3 fun fl f V'' M'' h4 t4 e5 pt4 rf hK => ?_
    have e6 : Est C ⟨hideAll h1 (C.own M ++ wr), wr ++ B.X⟩ V'' M'' h4 := e2.back e5
    have st4 : St (done ++ [(p, q)]).length h4 := by
      rw [List.length_append]
      refine W.frame _ h2 h4 st' fun b hb o e => e5.keep b o (hideAll_get _ e fun hm => ?_)
      have hnb : b ≠ C.env.locals ∧ (∀ p ∈ C.env.cells, b ≠ p.2) ∧ ∀ q ∈ M', q.1 ≠ b := by
        rcases hfp b hb with hbw | ⟨o', q'⟩
        · refine ⟨(hwn b hbw).1, (hwn b hbw).2, fun q hq z => (e2.own q hq).2.2 (z ▸ ?_)⟩
          exact List.mem_cons_of_mem _ (List.mem_append_right _ (List.mem_append_left _ hbw))
        · obtain ⟨z1, z2⟩ := vis_get (seen _ _ q')
          refine ⟨fun z => z2 (z ▸ List.mem_cons_self), fun p hp z => z2 (List.mem_cons_of_mem _ (List.mem_append_left _ (z ▸ List.mem_map.mpr ⟨p, hp, rfl⟩))), fun q hq z => ?_⟩
          have := (e2.own q hq).2.1
          rw [z] at this
          have z1' : (hideAll h1 (C.own M ++ wr)).get? b = some o' := z1
          rw [z1'] at this; cases this
      rcases List.mem_append.mp hm with q | q
      · obtain ⟨p, hp, z⟩ := List.mem_map.mp q
        exact hnb.2.2 p hp z
      · rcases List.mem_cons.mp q with q | q
        · exact hnb.1 q
        · split at q
          · obtain ⟨p, hp, z⟩ := List.mem_map.mp q
            exact hnb.2.1 p hp z.symm
          · cases q
    have hit' : items = (done ++ [(p, q)]) ++ rest := by rw [hit]; simp
    cases fl with
    | next => cases rf; exact ⟨_, Nat.lt_succ_self _, done ++ [(p, q)], rest, V'', M'', h4, t4, hit', rfl, rfl, hK, e6, pt4, st4⟩
    | cont => cases rf; exact ⟨_, Nat.lt_succ_self _, done ++ [(p, q)], rest, V'', M'', h4, t4, hit', rfl, rfl, hK, e6, pt4, st4⟩
    | brk => cases rf; exact k .next .next V'' M'' h4 t4 ((e6.seeX fun a ha => List.mem_append_right _ ha).weaken kback hE.g) rfl hK
    | ret q =>
      obtain ⟨v', rfl, r'⟩ := rf
      exact k (.ret q) (.ret v') V'' M'' h4 t4 ((e6.seeX fun a ha => List.mem_append_right _ ha).weaken kback hE.g)
        ⟨v', rfl, r'.get (vis_sub (Cx.hb_mono fun a ha => List.mem_append_right _ ha))⟩ hK

/-- `x, y = e` -/
theorem EX1.assignPair {x y : Str} {px py tp pos : Pos} {kx : Nat} {e : Expr} {p q : PV} (hx : C.St x) (hy : C.St y) (hv : EV C V M e (.tup [p, q])) (hsw : swapsWithSole [Expr.Tuple [.Name x px, .Name y py] kx tp] e pos.line C.env = pure false)
    (hsw2 : swappedStores [Expr.Tuple [.Name x px, .Name y py] kx tp] e C.env = pure none) (h : K .next ((y, q) :: (x, p) :: V) M) : EX1 C V M (.Assign [.Tuple [.Name x px, .Name y py] kx tp] e pos) K := fun ok B s Q E hE tk k => by
  refine PyProof.Rows.Assign_Tuple (hv.then ok hE tk fun v h1 t1 k1 e1 p1 r1 => ?_) hsw hsw2
  obtain ⟨a, vs, n, rfl, ea, v0, r, rfl, hr0, v1, r', rfl, hr1, hr2⟩ := r1
  cases hr2
  have hl : LookLe (C.look B M h1) (vis (hideAll h1 (C.own M)) (C.hb ⟨hideAll h1 (C.own M), B.X⟩)) := fun b o e => by
    obtain ⟨z1, z2⟩ := vis_get e
    refine vis_of (hideAll_get _ z1 fun hm => z2 ?_) fun hm => z2 (List.mem_append_right _ hm)
    rcases List.mem_append.mp hm with q | q
    · exact List.mem_append_left _ q
    · rcases List.mem_cons.mp q with q | q
      · exact List.mem_append_right _ (q ▸ List.mem_cons_self)
      · split at q
        · exact List.mem_append_right _ (List.mem_cons_of_mem _ (List.mem_append_left _ q))
        · cases q
  refine wp_pair ok (s := { s with heap := h1, toks := t1 }) hx hy e1.rebase p1 ⟨_, (vis_get ea).1, rfl, n, rfl⟩ (hr0.get hl) (hr1.get hl) fun h2 t2 e2 p2 => ?_
  exact k .next .next _ _ h2 t2 (e1.back e2) rfl h
end
end Mine

/-! LayK -/
namespace Mine
open PySem PySem.W PySem.Calls PyProof.Rows
set_option Elab.async false
section
variable {C : Cx} {V : Vars} {M : Owns} {K : Cont}

def PartOf (C : Cx) (V : Vars) (M : Owns) (x : Option Expr) (i : Option Int) : Prop := match x with
  | none => i = none
  | some e => ∃ j, i = some j ∧ EV C V M e (.int j)
theorem PartOf.nil : PartOf C V M none none := rfl
theorem PartOf.one {e : Expr} {j : Int} (h : EV C V M e (.int j)) : PartOf C V M (some e) (some j) := ⟨j, rfl, h⟩
theorem PartOf.run {x : Option Expr} {i : Option Int} (hx : PartOf C V M x i) (ok : C.Ok) {B : Bs} {s : Shared} {Q : Value → Shared → Prop} {E : Value → Shared → Prop} (hE : Est C B V M s.heap) (tk : 0 < s.toks)
    (k : ∀ l h' t', Keep s.heap h' → Est C B V M h' → 0 < t' → l.map (·.1) = i → Q (partValue l) { s with heap := h', toks := t' }) : wpAny (model C.prog C.w) C.A (evalPart x C.env) Q E s := by
  cases x with
  | none => cases hx; exact wpAny_pure (k none s.heap s.toks .rfl hE tk rfl)
  | some e =>
    obtain ⟨j, rfl, h⟩ := hx
    refine h.then ok hE tk fun v h' t' kp e1 p1 r => ?_
    obtain ⟨t, rfl⟩ := r
    exact k (some (j, t)) h' t' kp e1 p1 rfl
theorem isPart_partValue : ∀ (l : Option (Int × Tok)), IsPart (partValue l) (l.map (·.1))
  | none => .none
  | some (i, t) => .int i t

def pickL {α : Type} (l : List α) (lo hi st : Option Int) : List α :=
  (sliceRange (sliceBounds lo hi st l.length).1 (sliceBounds lo hi st l.length).2.1 (sliceBounds lo hi st l.length).2.2).filterMap (l[·]?)
theorem RepL.pick {P : Params} {L : Look} {l : List PV} {vs : List Value} (h : RepL P L l vs) : ∀ (is : List Nat), RepL P L (is.filterMap (l[·]?)) (is.filterMap (vs[·]?))
  | [] => rfl
  | i :: is => by
    have ih := RepL.pick h is
    cases e : l[i]? with
    | none =>
      have : vs[i]? = none := by rw [List.getElem?_eq_none_iff] at e ⊢; rw [h.len]; exact e
      rw [List.filterMap_cons_none e, List.filterMap_cons_none this]; exact ih
    | some p =>
      obtain ⟨v, ev, r⟩ := h.get e
      rw [List.filterMap_cons_some e, List.filterMap_cons_some ev]
      exact ⟨v, _, rfl, r, ih⟩
theorem SN.slice {value : Expr} {lower upper step : Option Expr} {p pos : Pos} {l : List PV} {lo hi st : Option Int} (hv : EV C V M value (.list l)) (h1 : PartOf C V M lower lo) (h2 : PartOf C V M upper hi) (h3 : PartOf C V M step st) (h0 : st ≠ some 0) (hsz : l.length ≤ sizeLine) :
    SN C V M (eval (.Subscript value (.Slice lower upper step p) pos) C.env) (pickL l lo hi st) := fun ok B s Q E hE tk k => by
  refine PyProof.Rows.Subscript_ (hv.then ok hE tk fun a g1 t1 k1 e1 p1 r1 => wpAny_Slice ?_)
  refine h1.run ok (s := { s with heap := g1, toks := t1 }) e1 p1 fun l1 g2 t2 k2 e2 p2 q1 => ?_
  refine h2.run ok (s := { s with heap := g2, toks := t2 }) e2 p2 fun l2 g3 t3 k3 e3 p3 q2 => ?_
  refine h3.run ok (s := { s with heap := g3, toks := t3 }) e3 p3 fun l3 g4 t4 k4 e4 p4 q3 => ?_
  obtain ⟨a, vs, n, rfl, q, r⟩ := r1
  have k14 : Keep g1 g4 := k2.trans (k3.trans k4)
  have r4 := RepL.mono (vis_keep (X := C.hid B M) k14) _ r
  have hl : (g4.push { cls := .type "slice", data := .fields #[partValue l1, partValue l2, partValue l3] }).IsList a vs.toArray := ⟨_, Heap.get?_push_of_some _ (k14 _ _ (vis_get q).1), rfl, n, rfl⟩
  have hlen := r.len
  have hfr : s.heap.get? (g4.push { cls := .type "slice", data := .fields #[partValue l1, partValue l2, partValue l3] }).objs.size = none := by
    cases z : s.heap.get? (g4.push { cls := .type "slice", data := .fields #[partValue l1, partValue l2, partValue l3] }).objs.size with
    | none => rfl
    | some o => have := (Keep.push (k1.trans k14) { cls := .type "slice", data := .fields #[partValue l1, partValue l2, partValue l3] }) _ _ z; rw [get_size] at this; cases this
  have fin : ∀ ops, subscripted (.Slice lower upper step p) false (.ref a) (.ref g4.objs.size) = operate ops (getItem (.ref a) (.ref g4.objs.size)) → wpAny (model C.prog C.w) C.A (subscriptTail value (.Slice lower upper step p) (.ref a) (.ref g4.objs.size)) Q E { s with heap := g4.push { cls := .type "slice", data := .fields #[partValue l1, partValue l2, partValue l3] }, toks := t4 } := fun ops ho => by
    refine tail_any (s := { s with heap := g4.push { cls := .type "slice", data := .fields #[partValue l1, partValue l2, partValue l3] }, toks := t4 }) hl.typeIs slot_list_getitem.lookup
      (wpAny_getItem_list_slice (s := { s with heap := g4.push { cls := .type "slice", data := .fields #[partValue l1, partValue l2, partValue l3] }, toks := t4 }) hl (Heap.IsSliceOf.new ..) (isPart_partValue l1) (isPart_partValue l2) (isPart_partValue l3) (by rw [q3]; exact h0) ?_ (by rw [List.size_toArray, hlen]; exact hsz)) ho
    have hvs : slicePick vs.toArray (l1.map (·.1)) (l2.map (·.1)) (l3.map (·.1)) = ((sliceRange (sliceBounds lo hi st l.length).1 (sliceBounds lo hi st l.length).2.1 (sliceBounds lo hi st l.length).2.2).filterMap (vs[·]?)).toArray := by
      rw [q1, q2, q3]; unfold slicePick; rw [List.size_toArray, hlen]; simp
    rw [hvs]
    exact k _ _ 0 _ t4 hfr (Heap.get?_push_size _ rfl) (RepL.mono (vis_keep ((Keep.rfl.push _).push _)) _ (RepL.pick r4 _)) (((k1.trans k14).push _).push _)
  cases step with
  | none => exact fin _ rfl
  | some e => exact fin _ rfl
theorem EV.sliceL {value : Expr} {lower upper step : Option Expr} {p pos : Pos} {l : List PV} {lo hi st : Option Int} (hv : EV C V M value (.list l)) (h1 : PartOf C V M lower lo) (h2 : PartOf C V M upper hi) (h3 : PartOf C V M step st) (h0 : st ≠ some 0) (hsz : l.length ≤ sizeLine) :
    EV C V M (.Subscript value (.Slice lower upper step p) pos) (.list (pickL l lo hi st)) := (SN.slice hv h1 h2 h3 h0 hsz).sv
theorem EV.sliceS {value : Expr} {lower upper : Option Expr} {p pos : Pos} {x : Str} {lo hi : Option Int} (hv : EV C V M value (.str x)) (h1 : PartOf C V M lower lo) (h2 : PartOf C V M upper hi) (hsz : x.length ≤ sizeLine) :
    EV C V M (.Subscript value (.Slice lower upper none p) pos) (.str (Txt.slice x lo hi)) := fun ok B s Q E hE tk k => by
  refine PyProof.Rows.Subscript_ (hv.then ok hE tk fun a g1 t1 k1 e1 p1 r1 => wpAny_Slice ?_)
  refine h1.run ok (s := { s with heap := g1, toks := t1 }) e1 p1 fun l1 g2 t2 k2 e2 p2 q1 => ?_
  refine h2.run ok (s := { s with heap := g2, toks := t2 }) e2 p2 fun l2 g3 t3 k3 e3 p3 q2 => ?_
  refine wpAny_pure ?_
  obtain ⟨t, rfl⟩ := r1
  subst q1; subst q2
  refine tail_any (typeIs_str _ _ _) F.slot_str_getitem.lookup (wpAny_getItem_str_slice (l := l1) (u := l2) (st := none) ⟨_, Heap.get?_push_size _ rfl, rfl, rfl⟩ rfl
    (post_val_or_str ⟨Nat.le_trans (Txt.slice_le x _ _) hsz, fun t' k' => k _ _ k' ((k1.trans (k2.trans k3)).push _) ⟨_, rfl⟩⟩)) rfl

theorem pushed_none {h h' : Heap} (k : Keep h h') : h.get? h'.objs.size = none := by
  cases q : h.get? h'.objs.size with
  | none => rfl
  | some o => have := k _ _ q; rw [get_size] at this; cases this
theorem replicate_flat {α : Type} (x : α) : ∀ (n : Nat) (acc : Array α), List.foldl (fun x1 x2 => x1 ++ x2) acc (List.replicate n #[x]) = acc ++ (List.replicate n x).toArray
  | 0, acc => by simp
  | n + 1, acc => by
    rw [List.replicate_succ, List.foldl_cons, replicate_flat x n]
    apply Array.ext'
    simp [List.replicate_succ]
theorem RepL.rep {P : Params} {L : Look} {p : PV} {v : Value} (h : Rep P L p v) : ∀ n, RepL P L (List.replicate n p) (List.replicate n v)
  | 0 => rfl
  | n + 1 => ⟨v, _, rfl, h, RepL.rep h n⟩
/-- `[x] * n` -/
theorem SN.mul {l r : Expr} {pos : Pos} {p : PV} {i : Int} (hl : EV C V M l (.list [p])) (hr : EV C V M r (.int i)) (h0 : 0 ≤ i) (hi : i ≤ 2 ^ 20) : SN C V M (eval (.BinOp l .Mult r pos) C.env) (List.replicate i.toNat p) := fun ok B s Q E hE tk k => by
  refine wpAny_BinOp (hl.then ok hE tk fun a h1 t1 k1 e1 p1 r1 => ?_)
  refine hr.then ok (s := { s with heap := h1, toks := t1 }) e1 p1 fun b h2 t2 k2 e2 p2 r2 => ?_
  obtain ⟨a, vs, n, rfl, q, v, vs', rfl, rv, rr⟩ := r1
  cases rr
  obtain ⟨u, rfl⟩ := r2
  have hq : h2.get? a = some (listObj [v] n) := k2 _ _ (vis_get q).1
  refine wpAny_binaryOp_repeat_ref (s := { s with heap := h2, toks := t2 }) (T := "list") (U := "int") (by decide) ⟨_, hq, rfl⟩ (fun s' => typeIs_int s' i u) noFill_list_mul F.fills_int_mul F.slot_int_rmul repeat_list F.slot_int_index.lookup
    (call_meets F.slot_int_rmul (typeIs_int _ i u) F.entry_int_rmul (F.args_int_rmul_2 _ _) (int___rmul___int_list i u a [v].toArray n)
      ⟨hq, rfl, ⟨_, hq, rfl⟩, call_meets F.slot_list_mul ⟨_, hq, rfl⟩ F.entry_list_mul (F.args_list_mul_2 _ _)
        (AutoListH.list___mul___list_int_3 a [v].toArray n i u (by simp [Builtin.List.listFitsIndex]; omega) (by simp; omega) (by simp [Builtin.List.listTooLong, sizeLine]; omega))
        ⟨hq, ?_⟩⟩)
  have e : List.foldl (fun x1 x2 => x1 ++ x2) #[] (List.replicate (if [v].toArray.isEmpty = true then 0 else i.toNat) [v].toArray) = (List.replicate i.toNat v).toArray := by
    rw [if_neg (by simp)]
    have := replicate_flat v i.toNat #[]
    simpa using this
  rw [e]
  exact k _ _ 0 _ t2 (pushed_none (k1.trans k2)) (Heap.get?_push_size _ rfl) (RepL.rep (rv.get (vis_keep (k2.push _))) _) ((k1.trans k2).push _)

theorem Bn.min2 {a b : Int} : Bn C V M "min" [.int a, .int b] (.int (if b < a then b else a)) := fun ok B vs s Q E hE tk r k => by
  obtain ⟨v, r', rfl, ⟨t, rfl⟩, v', r'', rfl, ⟨u, rfl⟩, h2⟩ := r; cases h2
  refine min_two_ints ok.hh fun h' tk' kp => k _ h' tk' kp ?_
  by_cases q : b < a
  · rw [if_pos q, if_pos q]; exact ⟨_, rfl⟩
  · rw [if_neg q, if_neg q]; exact ⟨_, rfl⟩
theorem RepL.ints {P : Params} {L : Look} : ∀ {ns : List Int} {vs : List Value}, RepL P L (ns.map .int) vs → ∃ xs : List (Int × Tok), vs.toArray = intItems xs.toArray ∧ xs.map (·.1) = ns
  | [], _, h => by cases h; exact ⟨[], by simp [intItems], rfl⟩
  | x :: xs, _, h => by
    obtain ⟨v, r, rfl, ⟨t, rfl⟩, h2⟩ := h
    obtain ⟨l, e, e2⟩ := RepL.ints h2
    refine ⟨(x, t) :: l, ?_, by rw [List.map_cons, e2]⟩
    have e' : r = (intItems l.toArray).toList := by rw [← e]
    rw [e']
    apply Array.ext'
    simp [intItems]
theorem preSum_list : ∀ (xs : List (Int × Tok)), preSum (numAt xs.toArray) xs.length = (xs.map (·.1)).sum := by
  intro xs
  have key : ∀ n, n ≤ xs.length → preSum (numAt xs.toArray) n = ((xs.map (·.1)).take n).sum := by
    intro n
    induction n with
    | zero => intro _; rfl
    | succ n ih =>
      intro hn
      have hlt : n < xs.length := hn
      show preSum (numAt xs.toArray) n + numAt xs.toArray n = _
      rw [ih (Nat.le_of_succ_le hn), List.take_add_one, List.sum_append]
      simp [numAt, hlt]
  rw [key _ (Nat.le_refl _), List.take_of_length_le (by simp)]
theorem Bn.sum {ns : List Int} : Bn C V M "sum" [.list (ns.map .int)] (.int ns.sum) := fun ok B vs s Q E hE tk r k => by
  obtain ⟨v, r', rfl, ⟨a, vs, n, rfl, q, r⟩, h2⟩ := r; cases h2
  obtain ⟨xs, e1, e2⟩ := RepL.ints r
  have hl : s.heap.IsList a (intItems xs.toArray) := e1 ▸ listObj_of (vis_get q).1
  refine sum_intListG ok.hh hl fun h' tk' t' kp => k _ h' tk' kp ⟨t', ?_⟩
  rw [← e2, ← preSum_list]
  simp
end
end Mine

/-! LayL -/
namespace Mine
open PySem PySem.W PySem.Calls PyProof.Rows
set_option Elab.async false
section
variable {C : Cx} {V : Vars} {M : Owns} {K : Cont}

def pairPV (x : PV × PV) : PV := .tup [x.1, x.2]
theorem RepL.pair {P : Params} {L : Look} {items : List (PV × PV)} {vs : List Value} (h : RepL P L (items.map pairPV) vs) {i : Nat} {p q : PV} (hi : items[i]? = some (p, q)) :
    ∃ T v0 v1 n, vs[i]? = some (.ref T) ∧ L T = some (tupObj [v0, v1] n) ∧ Rep P L p v0 ∧ Rep P L q v1 := by
  obtain ⟨v, e, r⟩ := h.get (i := i) (p := pairPV (p, q)) (by rw [List.getElem?_map, hi]; rfl)
  obtain ⟨T, ws, n, rfl, hT, v0, r0, rfl, h0, v1, r1, rfl, h1, h2⟩ := r
  cases h2
  exact ⟨T, v0, v1, n, e, hT, h0, h1⟩
theorem ItP.list {e : Expr} {items : List (PV × PV)} (h : EV C V M e (.list (items.map pairPV))) : ItP C V M e items := fun ok B s Q E hE tk k => by
  refine h.then ok hE tk fun v h1 t1 k1 e1 p1 r1 => ?_
  obtain ⟨a, vs, n, rfl, ha, hr⟩ := r1
  obtain ⟨ha1, ha2⟩ := vis_get ha
  refine wpAny_pyIter_list ⟨_, ha1, rfl, n, rfl⟩ ?_
  have e0 := get_size h1
  have hne : a ≠ h1.objs.size := fun q => by rw [q, e0] at ha1; cases ha1
  have kp : Keep h1 (h1.push { cls := .type "list_iterator", data := .fields #[.ref a, .int 0 0] }) := Keep.rfl.push _
  generalize hh2 : h1.push { cls := .type "list_iterator", data := .fields #[.ref a, .int 0 0] } = h2 at *
  have hlen : vs.toArray.size = items.length := by rw [List.size_toArray, hr.len, List.length_map]
  let Ts : Nat → Addr := fun j => match vs[j]? with | some (.ref T) => T | _ => 0
  let vals : Nat → Array Value := fun j => match h1.get? (Ts j) with | some o => (match o.data with | .seq it _ => it | _ => #[]) | none => #[]
  have hpair : ∀ j p q, items[j]? = some (p, q) → ∃ v0 v1 m, vs[j]? = some (.ref (Ts j)) ∧ vis h1 (C.hid B M) (Ts j) = some (tupObj [v0, v1] m) ∧ vals j = #[v0, v1] ∧ Rep C.w.params (C.look B M h1) p v0 ∧ Rep C.w.params (C.look B M h1) q v1 := fun j p q hj => by
    obtain ⟨T, v0, v1, m, g1, g2, g3, g4⟩ := hr.pair hj
    have hT : Ts j = T := by show (match vs[j]? with | some (.ref T) => T | _ => 0) = T; rw [g1]
    refine ⟨v0, v1, m, by rw [hT]; exact g1, by rw [hT]; exact g2, ?_, g3, g4⟩
    show (match h1.get? (Ts j) with | some o => (match o.data with | .seq it _ => it | _ => #[]) | none => #[]) = _
    rw [hT, (vis_get g2).1]
  have hpair' : ∀ j, j < items.length → ∃ v0 v1 m, vs[j]? = some (.ref (Ts j)) ∧ vis h1 (C.hid B M) (Ts j) = some (tupObj [v0, v1] m) ∧ vals j = #[v0, v1] := fun j hj => by
    obtain ⟨v0, v1, m, g1, g2, g3, _⟩ := hpair j (items[j]'hj).1 (items[j]'hj).2 (by rw [List.getElem?_eq_getElem hj])
    exact ⟨v0, v1, m, g1, g2, g3⟩
  have W := WalksU.listOfTuples (prog := C.prog) (w := C.w) (A := C.A) ok.hh h1.objs.size a hne vs.toArray Ts vals
    (fun j hj => by obtain ⟨v0, v1, m, g1, _⟩ := hpair' j (hlen ▸ hj); simpa using g1)
    (fun j hj z => by obtain ⟨v0, v1, m, _, g2, _⟩ := hpair' j (hlen ▸ hj); have := (vis_get g2).1; rw [z, e0] at this; cases this)
  rw [hlen] at W
  have hI : h2.get? h1.objs.size = some { cls := .type "list_iterator", data := .fields #[.ref a, .int 0 0] } := hh2 ▸ Heap.get?_push_size _ rfl
  have hl2 : LookLe (vis h1 (C.hid B M)) (vis h2 ([h1.objs.size] ++ C.hid B M)) := fun b o q => by
    obtain ⟨q1, q2⟩ := vis_get q
    exact vis_two (vis_of (kp _ _ q1) q2) fun z => by
      rw [List.mem_singleton.mp z, e0] at q1; cases q1
  refine k h1.objs.size _ [h1.objs.size] _ _ _ h2 t1 (k1.trans kp) W ⟨⟨_, hI, rfl, rfl⟩, ⟨_, kp _ _ ha1, rfl, n, rfl⟩, fun j hj => ?_⟩ ?_ ?_ ?_ ?_ p1
  · obtain ⟨v0, v1, m, _, g2, g3⟩ := hpair' j (hlen ▸ hj)
    rw [g3]
    exact ⟨_, kp _ _ (vis_get g2).1, rfl, m, rfl⟩
  · intro b hb; rw [List.mem_singleton.mp hb]
    cases q : s.heap.get? h1.objs.size with
    | none => rfl
    | some o => rw [k1 _ _ q] at e0; cases e0
  · rintro i h ⟨⟨o, ho, _⟩, _⟩ b hb; rw [List.mem_singleton.mp hb]; exact ⟨o, ho⟩
  · intro b hb
    rcases List.mem_cons.mp hb with q | q
    · exact .inl (by rw [q]; exact List.mem_singleton.mpr rfl)
    · rcases List.mem_cons.mp q with q | q
      · rw [q]; exact .inr ⟨_, hl2 _ _ ha⟩
      · obtain ⟨j, hj, rfl⟩ := List.mem_map.mp q
        obtain ⟨v0, v1, m, _, g2, _⟩ := hpair' j (List.mem_range.mp hj)
        exact .inr ⟨_, hl2 _ _ g2⟩
  · intro i p q vals' hp hv
    obtain ⟨v0, v1, m, _, _, g3, g4, g5⟩ := hpair i p q hp
    exact ⟨v0, v1, hv.trans g3, g4.get hl2, g5.get hl2⟩

theorem ItP.zip {np zp : Pos} {e1 e2 : Expr} {ps qs : List PV} (hf : EV C V M (.Name (Str.ofString "zip") np) (.val (.type "zip"))) (ha : EV C V M e1 (.list ps)) (hb : EV C V M e2 (.list qs)) (hs : starEach [e1, e2] C.env = [(false, eval e1 C.env), (false, eval e2 C.env)]) :
    ItP C V M (.Call (.Name (Str.ofString "zip") np) [e1, e2] [] zp) (ps.zip qs) := fun ok B s Q E hE tk k => by
  refine wpAny_Call_NameR (hf.then ok hE tk fun v h1 t1 k1 e1 p1 r1 => ?_)
  cases r1
  rw [hs]
  refine PySem.callWith_type rfl (Calls.evalArgs_plain (Calls.spliced_cons (ha.then ok (s := { s with heap := h1, toks := t1 }) e1 p1 fun v h2 t2 k2 e2 p2 r2 => ?_)))
  refine Calls.spliced_cons (hb.then ok (s := { s with heap := h2, toks := t2 }) e2 p2 fun v' h3 t3 k3 e3 p3 r3 => Calls.spliced_nil ?_)
  obtain ⟨a, vs, n, rfl, qa, ra⟩ := r2
  obtain ⟨b, ws, m, rfl, qb, rb⟩ := r3
  have qa3 := vis_keep k3 _ _ qa
  have ra3 := RepL.mono (vis_keep (X := C.hid B M) k3) _ ra
  have hla : h3.IsList a vs.toArray := listObj_of (vis_get qa3).1
  have hlb : h3.IsList b ws.toArray := listObj_of (vis_get qb).1
  refine call_zip_2 (s := { s with heap := h3, toks := t3 }) hla hlb fun h' hz hTI hTO hi1 hi2 hsz hk => ?_
  refine wpAny_pyIter_zip hz ?_
  have lt1 := Heap.lt_size (vis_get qa3).1
  have lt2 := Heap.lt_size (vis_get qb).1
  have W := (WalksT.zip2 (prog := C.prog) (w := C.w) (A := C.A) ok.hh _ _ _ _ _ a b (zipApart_new lt1 lt2) vs.toArray ws.toArray).toU
  have hlen : min vs.toArray.size ws.toArray.size = (ps.zip qs).length := by rw [List.size_toArray, List.size_toArray, ra.len, rb.len, List.length_zip]
  rw [hlen] at W
  have hnew : ∀ c ∈ [h3.objs.size + 4, h3.objs.size + 3, h3.objs.size, h3.objs.size + 1], h3.get? c = none := fun c hc => by
    cases q : h3.get? c with
    | none => rfl
    | some o =>
      have := Heap.lt_size q
      simp only [List.mem_cons, List.not_mem_nil, or_false] at hc
      rcases hc with rfl | rfl | rfl | rfl
      · exact absurd this (Nat.not_lt.mpr (Nat.le_add_right _ _))
      · exact absurd this (Nat.not_lt.mpr (Nat.le_add_right _ _))
      · exact absurd this (Nat.lt_irrefl _)
      · exact absurd this (Nat.not_lt.mpr (Nat.le_add_right _ _))
  have kp : Keep h3 h' := fun b o e => hk b o e
  have ks : Keep s.heap h3 := k1.trans (k2.trans k3)
  have hl2 : LookLe (vis h3 (C.hid B M)) (vis h' ([h3.objs.size + 4, h3.objs.size + 3, h3.objs.size, h3.objs.size + 1] ++ C.hid B M)) := fun b o q => by
    obtain ⟨q1, q2⟩ := vis_get q
    exact vis_two (vis_of (kp _ _ q1) q2) fun z => by rw [hnew b z] at q1; cases q1
  refine k _ _ _ _ _ _ h' t3 (ks.trans kp) W ⟨hz, hTI, ⟨_, _, hTO⟩, hi1, hi2, ?_, ?_⟩ ?_ ?_ ?_ ?_ p3
  · obtain ⟨o, z1, z2⟩ := hla; exact ⟨o, kp _ _ z1, z2⟩
  · obtain ⟨o, z1, z2⟩ := hlb; exact ⟨o, kp _ _ z1, z2⟩
  · intro c hc
    cases q : s.heap.get? c with
    | none => rfl
    | some o => rw [← hnew c hc, ks _ _ q]
  · rintro i h ⟨hz, _, ⟨x, y, hTO⟩, ⟨o1, h1, _⟩, ⟨o2, h2, _⟩, _⟩ c hc
    simp at hc
    rcases hc with rfl | rfl | rfl | rfl
    · exact ⟨_, hz⟩
    · exact ⟨_, hTO⟩
    · exact ⟨_, h1⟩
    · exact ⟨_, h2⟩
  · intro c hc
    simp only [List.mem_cons, List.not_mem_nil, or_false] at hc
    rcases hc with rfl | rfl | rfl | rfl | rfl | rfl | rfl
    · exact .inl (by simp)
    · refine .inr ⟨_, vis_two (vis_of hTI fun z => ?_) (by simp)⟩
      have : h3.get? (h3.objs.size + 2) = none := by
        cases q : h3.get? (h3.objs.size + 2) with
        | none => rfl
        | some o => exact absurd (Heap.lt_size q) (Nat.not_lt.mpr (Nat.le_add_right _ _))
      exact e3.fresh this z
    · exact .inl (by simp)
    · exact .inl (by simp)
    · exact .inl (by simp)
    · exact .inr ⟨_, hl2 _ _ qa3⟩
    · exact .inr ⟨_, hl2 _ _ qb⟩
  · rintro i p q vals hp ⟨x, y, hx, hy, rfl⟩
    rw [List.getElem?_zip_eq_some] at hp
    obtain ⟨v0, g1, g2⟩ := ra3.get hp.1
    obtain ⟨v1, g3, g4⟩ := rb.get hp.2
    refine ⟨x, y, rfl, ?_, ?_⟩
    · have : v0 = x := by have hx' : vs[i]? = some x := by simpa using hx
                          rw [g1] at hx'; exact Option.some.inj hx'
      exact this ▸ g2.get hl2
    · have : v1 = y := by have hx' : ws[i]? = some y := by simpa using hy
                          rw [g3] at hx'; exact Option.some.inj hx'
      exact this ▸ g4.get hl2
end
end Mine

/-! LayM -/
namespace Mine
open PySem PySem.W PySem.Calls PyProof.Rows
set_option Elab.async false
section
variable {C : Cx} {V : Vars} {M : Owns} {K : Cont}

theorem Est.sub {B : Bs} {V' : Vars} {h : Heap} (x : Est C B V' M h) (hv : ∀ y pv, V.lookup y = some pv → V'.lookup y = some pv) : Est C B V M h where
  g := x.g
  keep := x.keep
  liveX := x.liveX
  newL := x.newL
  locC := x.locC
  cells := x.cells
  vars := by
    obtain ⟨m, cm, h1, h2, h3⟩ := x.vars
    exact ⟨m, cm, h1, h2, fun y pv e => h3 y pv (hv y pv e)⟩
  own := x.own
  apart := x.apart
theorem Est.rebaseH {B : Bs} {h : Heap} {wr : List Addr} (x : Est C B V M h) (hw : ∀ b ∈ wr, B.h₀.get? b = none) : Est C ⟨hideAll h (C.own M ++ wr), B.X⟩ V M h where
  g := x.g.kept (x.strip_keep wr hw)
  keep := fun b o e => of_hideAll _ e
  liveX := x.liveX
  newL := hideAll_none _ (List.mem_append_left _ (List.mem_append_right _ List.mem_cons_self))
  locC := x.locC
  cells := fun w => ⟨fun p hp => hideAll_none _ (List.mem_append_left _ (List.mem_append_right _ (List.mem_cons_of_mem _ (by rw [if_pos w]; exact List.mem_map.mpr ⟨p, hp, rfl⟩)))), (x.cells w).2⟩
  vars := x.vars
  own := fun p hp => ⟨(x.own p hp).1, hideAll_none _ (List.mem_append_left _ (List.mem_append_left _ (List.mem_map.mpr ⟨p, hp, rfl⟩))), (x.own p hp).2.2⟩
  apart := x.apart

/-- a deed that leaves the frame so -/
def AT (C : Cx) (V : Vars) (M : Owns) (t : Sem Unit) (V' : Vars) (M' : Owns) : Prop :=
  C.Ok → ∀ (B : Bs) (s : Shared) (Q : Unit → Shared → Prop) (E : Value → Shared → Prop), Est C B V M s.heap → 0 < s.toks →
    (∀ h' t', Est C B V' M' h' → 0 < t' → Q () { s with heap := h', toks := t' }) → wpAny (model C.prog C.w) C.A t Q E s

theorem AT.append {elt : Expr} {D : Addr} {ps : List PV} {p : PV} (h : EV C V [(D, .list ps)] elt p) (hl : ps.length ≤ sizeLine) :
    AT C V [(D, .list ps)] (do let _ ← call (.builtin "list.append") [.ref D, ← eval elt C.env]) V [(D, .list (ps ++ [p]))] := fun ok B s Q E hE tk k => by
  refine wpAny_bind (h.then ok hE tk fun y h2 t2 k2 e2 p2 r2 => wpAny_bind ?_)
  have hin : (D, MO.list ps) ∈ [] ++ (D, MO.list ps) :: [] := List.mem_cons_self
  obtain ⟨⟨vs, n, q, r⟩, _, _⟩ := e2.own _ hin
  have q' : h2.get? D = some (listObj vs n) := q
  refine call_meets slot_list_append ⟨_, q', rfl⟩ F.entry_list_append (F.args_list_append_2 _ _) (AutoListH.list_append_list_val_0 D vs.toArray n y (by rw [List.size_toArray, r.len]; exact hl)) ⟨q', ?_⟩
  have hs7 : Heap.SameBut D h2 (h2.update D (Obj.mapSeq fun a => a.push y)) := Heap.SameBut.update ..
  obtain ⟨k', hD7⟩ : ∃ k', (h2.update D (Obj.mapSeq fun a => a.push y)).get? D = some (listObj (vs ++ [y]) k') :=
    ⟨_, (Heap.get?_update_self _ q' rfl).trans (by show some (Obj.mk _ _ (Data.seq (vs.toArray.push y) _) _) = some (Obj.mk _ _ (Data.seq (vs ++ [y]).toArray _) _); rw [List.push_toArray])⟩
  have hl7 : LookLe (C.look B ([] ++ (D, .list ps) :: []) h2) (C.look B ([] ++ (D, .list ps) :: []) (h2.update D (Obj.mapSeq fun a => a.push y))) := vis_but (fun c o n e => hs7.extBut c o n e) (List.mem_append_left _ (List.mem_map.mpr ⟨_, hin, rfl⟩))
  have e7 := Est.upd (M₁ := []) (M₂ := []) (m' := .list (ps ++ [p])) e2 hs7 ⟨_, k', hD7, RepL.snoc (RepL.mono hl7 _ r) (r2.get hl7)⟩
  exact wpAny_pure (k _ t2 e7 p2)

theorem comp_level {e : Expr} {depth : Nat} {x : Str} {px pos : Pos} {act : Sem Unit} {D I : Addr} {fp wr X : List Addr} {items : List PV} {P : Nat → Value → Prop} {St : Nat → Heap → Prop} {g₀ : Heap} {ps : List PV} {F : PV → List PV} {R : Result → Shared → Prop} {s : Shared}
    (hct : ∀ it, compTurn e depth it (.ref D) C.env = (do
      standAt pos
      match ← pyNext it with
      | none => pure (.done .next)
      | some v =>
        letOwnedTupleGo (.Name x px) it v
        assign (.Name x px) C.env v
        act
        again (.compLoop e depth it (.ref D) C.env)))
    (hq : (Code.compLoop e depth (.ref I) (.ref D) C.env).quiet = true)
    (hu : C.A.under (.compLoop e depth (.ref I) (.ref D) C.env) = C.A)
    (hfr : (Code.compLoop e depth (.ref I) (.ref D) C.env).isFrame = false)
    (ok : C.Ok) (hx : C.env.kindOf x = some .local) (hVx : V.lookup x = none)
    (hE : Est C ⟨g₀, wr ++ X⟩ V [(D, .list ps)] s.heap) (tk : 0 < s.toks) (hbase : ∀ b ∈ wr, g₀.get? b = none) (hX : ∀ a ∈ X, a ∉ wr) (hwn : ∀ b ∈ wr, b ≠ C.env.locals ∧ ∀ p ∈ C.env.cells, b ≠ p.2)
    (W : Walks C.prog C.w C.A I fp wr items.length P St) (st0 : St 0 s.heap) (hlv : ∀ i h, St i h → ∀ b ∈ wr, ∃ o, h.get? b = some o)
    (hfp : ∀ b ∈ fp, b ∈ wr ∨ ∃ o, vis g₀ (C.hb ⟨g₀, wr ++ X⟩) b = some o)
    (hP : ∀ i p v, items[i]? = some p → P i v → Rep C.w.params (vis g₀ (C.hb ⟨g₀, wr ++ X⟩)) p v)
    (hturn : ∀ p ∈ items, ∀ qs : List PV, (∃ done, qs = ps ++ done.flatMap F ∧ ∃ rest, items = done ++ p :: rest) → AT C ((x, p) :: V) [(D, .list qs)] act ((x, p) :: V) [(D, .list (qs ++ F p))])
    (fin : ∀ h' t', Est C ⟨g₀, X⟩ V [(D, .list (ps ++ items.flatMap F))] h' → 0 < t' → R (.ok .next) { s with heap := h', toks := t' }) :
    codeAny (model C.prog C.w) C.A (.compLoop e depth (.ref I) (.ref D) C.env) R s := by
  refine codeAny_loop hq (fun n s' => ∃ done rest h' t', items = done ++ rest ∧ n = rest.length ∧ s' = { s with heap := h', toks := t' } ∧ Est C ⟨g₀, wr ++ X⟩ V [(D, .list (ps ++ done.flatMap F))] h' ∧ 0 < t' ∧ St done.length h')
    ?_ items.length ⟨[], items, s.heap, s.toks, rfl, rfl, rfl, by simpa using hE, tk, st0⟩
  rintro n s' ⟨done, rest, h', t', hit, rfl, rfl, e1, pt, st⟩
  rw [hu]
  have hden : (model C.prog C.w).den (.compLoop e depth (.ref I) (.ref D) C.env) = (compTurn e depth (.ref I) (.ref D) C.env).onRaise (fun x => do noteFrame x C.env; theTreesLotGoes x) := by
    show (if (Code.compLoop e depth (.ref I) (.ref D) C.env).isFrame = true then _ else _) = _
    rw [hfr]; rfl
  rw [hden]
  refine wpAny_noted ?_
  rw [hct]
  refine wpAny_bind (wpAny_standAt (wpAny_bind ?_))
  cases rest with
  | nil =>
    rw [List.append_nil] at hit; subst hit
    refine wpAny_tk (s := { s with heap := h', toks := t' }) pt (W.done _ _ _ st fun h'' t'' kb pt2 => ?_)
    exact wpAny_pure (fin h'' t'' (e1.stepX kb hbase hwn hX) pt2)
  | cons p rest =>
    refine wpAny_tk (s := { s with heap := h', toks := t' }) pt (W.item done.length _ _ _ (by rw [hit]; simp) st fun v h'' t'' hp st' kb pt2 => ?_)
    have e2 := e1.stepX' kb hbase hwn hX (hlv _ _ st')
    refine wpAny_bind (wpAny_of_eq (show letOwnedTupleGo (.Name x px) (.ref I) v = pure () from rfl) ?_)
    have e3 := e2.rebase
    refine wpAny_bind (wpAny_assign_Name (wpAny_tk (s := { s with heap := h'', toks := t'' }) pt2 (wp_store ok (s := { s with heap := h'', toks := t'' }) (.inl hx) e3 (((hP done.length p v (by rw [hit]; simp) hp).get e2.base_look)) fun h3 t3 e4 pt3 => ?_)))
    refine wpAny_bind (hturn p (by rw [hit]; simp) _ ⟨done, rfl, rest, hit⟩ ok _ { s with heap := h3, toks := t3 } _ _ e4 pt3 fun h4 t4 e5 pt4 => ?_)
    have e6 : Est C ⟨g₀, wr ++ X⟩ ((x, p) :: V) [(D, .list (ps ++ done.flatMap F ++ F p))] h4 := e2.back e5
    have st4 : St (done ++ [p]).length h4 := by
      rw [List.length_append]
      refine W.frame _ h'' h4 st' fun b hb o e => e5.keep b o (hideAll_get _ e fun hm => ?_)
      have hnb : b ≠ C.env.locals ∧ (∀ p ∈ C.env.cells, b ≠ p.2) ∧ ∀ q ∈ [(D, MO.list (ps ++ done.flatMap F))], q.1 ≠ b := by
        rcases hfp b hb with hbw | ⟨o', q'⟩
        · refine ⟨(hwn b hbw).1, (hwn b hbw).2, fun q hq z => (e2.own q hq).2.2 (z ▸ ?_)⟩
          exact List.mem_cons_of_mem _ (List.mem_append_right _ (List.mem_append_left _ hbw))
        · obtain ⟨z1, z2⟩ := vis_get q'
          refine ⟨fun z => z2 (z ▸ List.mem_cons_self), fun p hp z => z2 (List.mem_cons_of_mem _ (List.mem_append_left _ (z ▸ List.mem_map.mpr ⟨p, hp, rfl⟩))), fun q hq z => ?_⟩
          have := (e2.own q hq).2.1
          rw [z] at this
          have z1' : g₀.get? b = some o' := z1
          rw [z1'] at this; cases this
      rcases List.mem_append.mp hm with q | q
      · obtain ⟨p, hp, z⟩ := List.mem_map.mp q
        exact hnb.2.2 p hp z
      · rcases List.mem_cons.mp q with q | q
        · exact hnb.1 q
        · split at q
          · obtain ⟨p, hp, z⟩ := List.mem_map.mp q
            exact hnb.2.1 p hp z.symm
          · cases q
    have hit' : items = (done ++ [p]) ++ rest := by rw [hit]; simp
    have e7 : Est C ⟨g₀, wr ++ X⟩ V [(D, .list (ps ++ (done ++ [p]).flatMap F))] h4 := by
      have e8 := e6.sub (V := V) fun y pv ey => by
        rw [lookup_cons_of]
        by_cases q : y = x
        · subst q; rw [hVx] at ey; cases ey
        · rw [if_neg q]; exact ey
      rwa [List.flatMap_append, List.flatMap_cons, List.flatMap_nil, List.append_nil, ← List.append_assoc]
    exact wpAny_pure ⟨rfl, rest.length, Nat.lt_succ_self _, done ++ [p], rest, h4, t4, hit', rfl, rfl, e7, pt4, st4⟩
end
end Mine

/-! LayN -/
namespace Mine
open PySem PySem.W PySem.Calls PyProof.Rows
set_option Elab.async false
section
variable {C : Cx} {V : Vars} {M : Owns} {K : Cont}

theorem compStart_any {prog : Program} {w : World} {A : Around} {e : Expr} {depth : Nat} {it acc : Value} {env : Env} {g : Comprehension} {R : Result → Shared → Prop} {s : Shared} (hg : (clausesOf e)[depth]? = some g) (ha : (g.is_async != 0) = false)
    (hu : A.under (.compStart e depth it acc env) = A) (hfr : (Code.compStart e depth it acc env).isFrame = false) (hq : ∀ it', (Code.compLoop e depth it' acc env).quiet = true)
    (h0 : codeAny (model prog w) A (.compLoop e depth it acc env) R s)
    (h : wpAny (model prog w) A (pyIter it) (fun it' s' => codeAny (model prog w) A (.compLoop e depth it' acc env) R s') (notedBy (model prog w) A env fun x s' => R (.error x) s') s) :
    codeAny (model prog w) A (.compStart e depth it acc env) R s := by
  refine codeAny_of_tree ?_
  rw [hu]
  have hden : (model prog w).den (.compStart e depth it acc env) = (compStart e depth it acc env).onRaise (fun x => do noteFrame x env; standAt theWindowsPlace) := by
    show (if (Code.compStart e depth it acc env).isFrame = true then _ else _) = _
    rw [hfr]; rfl
  rw [hden]
  refine wpAny_notedAt ?_
  unfold compStart
  rw [hg]
  simp only [Option.elim_some, ha, Bool.false_eq_true, if_false]
  refine wpAny_bind (wpAny_askSetting (wpAny_ite ?_))
  split
  · first
      | exact wpAny_bind (wpAny_pure (wpAny_pure (And.intro (hq _) h0)))
      | exact wpAny_pure (And.intro (hq _) h0)
  · refine wpAny_bind (wpAny_rule ?_)
    exact wpAny_bind (wpAny_standAt (wpAny_bind (wpAny_mono h (fun it' s' h' => wpAny_pure (And.intro (hq _) h')) fun _ _ x => x)))

theorem flat_one {α β : Type} (f : α → β) : ∀ (l : List α), (l.flatMap fun q => [f q]) = l.map f
  | [] => rfl
  | a :: l => by rw [List.flatMap_cons, flat_one f l]; rfl

theorem AT.inner {elt iter1 iter2 : Expr} {x y : Str} {px py pos : Pos} {scope : Scope} {D : Addr} {items : List PV} {f : PV → PV} {qs : List PV} (hy : C.env.kindOf y = some .local) (hVy : V.lookup y = none)
    (hi : It C V [(D, .list qs)] iter2 items) (hs : ∀ x, foldedSetIterable iter2 C.env x = pure x)
    (hbody : ∀ q ∈ items, ∀ qs' : List PV, EV C ((y, q) :: V) [(D, .list qs')] elt (f q)) (hsz : qs.length + items.length ≤ sizeLine) :
    AT C V [(D, .list qs)] (do
      let z ← eval iter2 C.env
      standAt iter2.pos
      let z ← foldedSetIterable iter2 C.env z
      let _ ← runOwn (.compStart (.ListComp elt [⟨.Name x px, iter1, [], 0⟩, ⟨.Name y py, iter2, [], 0⟩] scope pos) 1 (← holding [z] (pyIter z)) (.ref D) C.env) C.env)
      V [(D, .list (qs ++ items.map f))] := fun ok B s Q E hE tk k => by
  refine wpAny_bind (wpAny_mono (hi ok B s (fun it s₂ => codeAny (model C.prog C.w) C.A (.compStart (.ListComp elt [⟨.Name x px, iter1, [], 0⟩, ⟨.Name y py, iter2, [], 0⟩] scope pos) 1 it (.ref D) C.env)
      (fun r s' => match r with | .ok _ => Q () s' | .error e => cameBackBy (model C.prog C.w) C.A C.env E e s') s₂) E hE tk fun It fp wr P St h1 t1 k1 W st0 hwf hlv hfp hP p1 => ?_) (fun z s₁ hz => ?_) fun _ _ e => e)
  · have hnh : ∀ b ∈ wr, b ∉ C.hid B [(D, .list qs)] := fun b hb => hE.fresh (hwf b hb)
    have hwn : ∀ b ∈ wr, b ≠ C.env.locals ∧ ∀ p ∈ C.env.cells, b ≠ p.2 := fun b hb =>
      ⟨fun q => hnh b hb (List.mem_append_right _ (q ▸ List.mem_cons_self)), fun p hp q => hnh b hb (List.mem_append_right _ (List.mem_cons_of_mem _ (List.mem_append_left _ (q ▸ List.mem_map.mpr ⟨p, hp, rfl⟩))))⟩
    have hXw : ∀ a ∈ B.X, a ∉ wr := fun a ha hb => hnh a hb (List.mem_append_right _ (List.mem_cons_of_mem _ (List.mem_append_right _ ha)))
    have E1 := hE.rebaseW k1 hwf (hlv 0 h1 st0)
    have kback : Keep B.h₀ (hideAll h1 (C.own [(D, .list qs)] ++ wr)) := (hE.kept k1).strip_keep wr fun b hb => Bs.none_of hE.keep (hwf b hb)
    have seen : LookLe (vis h1 (wr ++ C.hid B [(D, .list qs)])) (vis (hideAll h1 (C.own [(D, .list qs)] ++ wr)) (C.hb ⟨hideAll h1 (C.own [(D, .list qs)] ++ wr), wr ++ B.X⟩)) := seen_hide
    have loop : codeAny (model C.prog C.w) C.A (.compLoop (.ListComp elt [⟨.Name x px, iter1, [], 0⟩, ⟨.Name y py, iter2, [], 0⟩] scope pos) 1 (.ref It) (.ref D) C.env) (fun r s' => match r with | .ok _ => Q () s' | .error e => cameBackBy (model C.prog C.w) C.A C.env E e s') { s with heap := h1, toks := t1 } := by
      refine comp_level (F := fun q => [f q]) (act := do let _ ← call (.builtin "list.append") [.ref D, ← eval elt C.env]) (fun it => rfl) rfl rfl rfl ok hy hVy E1 p1 (fun b hb => hideAll_none _ (List.mem_append_right _ hb)) hXw hwn W st0 hlv
        (fun b hb => (hfp b hb).imp id fun ⟨o, z⟩ => ⟨o, seen _ _ z⟩) (fun i p v hp hv => (hP i p v hp hv).get seen) (fun p hp qs' hq' => ?_) fun h' t' e' p' => ?_
      · obtain ⟨done, rfl, rest, hr⟩ := hq'
        refine AT.append (hbody p hp _) ?_
        have h1 := congrArg List.length hr
        rw [List.length_append, List.length_cons] at h1
        rw [flat_one, List.length_append, List.length_map]
        omega
      · rw [flat_one] at e'
        exact k h' t' (e'.weaken kback hE.g) p'
    exact compStart_any (g := ⟨.Name y py, iter2, [], 0⟩) rfl rfl rfl rfl (fun _ => rfl) loop (W.self 0 _ _ _ st0 loop)
  · refine wpAny_bind (wpAny_standAt (wpAny_bind (wpAny_of_eq (hs z) (wpAny_bind (wpAny_holding (wpAny_mono hz (fun it s₂ h₂ => ?_) fun _ _ e => e))))))
    exact wpAny_bind (wpAny_runOwn (h := none) (codeAny_mono h₂ fun r s' hr => by cases r with | ok f => exact wpAny_pure hr | error e => exact hr))

theorem Est.block0 {B : Bs} {h h3 : Heap} {scope : Scope} {x : Str} {Vc : Vars} {Ca D : Addr} {wr : List Addr} {m : Str → Option Value} (hE : Est C B V M h) (co : CompOk C V Vc scope x) (kp : Keep h h3)
    (hw0 : ∀ b ∈ wr, h.get? b = none) (hwl : ∀ b ∈ wr, ∃ o, h3.get? b = some o) (hCa : h.get? Ca = none) (hD : h.get? D = none) (hDw : D ∉ wr) (hDC : D ≠ Ca) (hDv : h3.get? D = some (listObj [] 0)) (hn : h3.Ns Ca m) :
    Est (compCx C scope Ca) ⟨B.h₀, wr ++ C.hid B M⟩ Vc [(D, .list [])] h3 := by
  have hcl : ∀ q ∈ clOf scope C.env, C.env.cells.lookup q.1 = some q.2 := clFrom_mem (fun _ z => nomatch z)
  have hclh : ∀ q ∈ clOf scope C.env, q.2 ∈ C.hid B M := fun q hq => List.mem_append_right _ (List.mem_cons_of_mem _ (List.mem_append_left _ (List.mem_map.mpr ⟨_, mem_of_lookup (hcl q hq), rfl⟩)))
  have livehid : ∀ a ∈ C.hid B M, ∃ o, h.get? a = some o := fun a z => by
    rcases List.mem_append.mp z with z | z
    · obtain ⟨q, hq, rfl⟩ := List.mem_map.mp z; exact (hE.own q hq).1.live
    · exact hE.liveX a z
  have hlook : LookLe (C.look B M h) ((compCx C scope Ca).look ⟨B.h₀, wr ++ C.hid B M⟩ [(D, .list [])] h3) := fun a o e => by
    obtain ⟨e1, n⟩ := vis_get e
    refine vis_of (kp a o e1) fun z => ?_
    rcases List.mem_cons.mp (show a ∈ D :: _ from z) with z | z
    · subst z; rw [hD] at e1; cases e1
    · rcases List.mem_cons.mp (show a ∈ Ca :: _ from z) with z | z
      · subst z; rw [hCa] at e1; cases e1
      · rcases List.mem_append.mp z with z | z
        · obtain ⟨q, hq, rfl⟩ := List.mem_map.mp z; exact n (hclh q hq)
        · rcases List.mem_append.mp z with z | z
          · rw [hw0 a z] at e1; cases e1
          · exact n z
  exact {
    g := hE.g
    keep := hE.keep.trans kp
    liveX := fun a ha => by
      rcases List.mem_cons.mp ha with z | z
      · obtain ⟨o, es, ep, e, _⟩ := hn; exact ⟨o, z ▸ e⟩
      · rcases List.mem_append.mp z with z | z
        · obtain ⟨q, hq, rfl⟩ := List.mem_map.mp z
          obtain ⟨o, e⟩ := livehid _ (hclh q hq); exact ⟨o, kp _ _ e⟩
        · rcases List.mem_append.mp z with z | z
          · exact hwl a z
          · obtain ⟨o, e⟩ := livehid a z; exact ⟨o, kp _ _ e⟩
    newL := Bs.none_of hE.keep hCa
    locC := fun q hq z => by
      obtain ⟨o, e⟩ := livehid _ (hclh q hq)
      rw [show q.2 = Ca from z, hCa] at e; cases e
    cells := fun w => nomatch w
    vars := by
      obtain ⟨mm, cm, g1, g2, g3⟩ := hE.vars
      refine ⟨m, cm, hn, fun n c e => (g2 n c (hcl _ (mem_of_lookup e))).keeps kp, fun y pv e => ?_⟩
      obtain ⟨z1, z2, z3, z4⟩ := co.caught y pv e
      obtain ⟨v', r', z⟩ := g3 y pv z1
      refine ⟨v', r'.get hlook, ?_⟩
      rcases z with ⟨z, _⟩ | ⟨_, _, z⟩
      · rw [z2] at z; cases z
      · exact .inr ⟨.inl z3, Option.isSome_iff_exists.mp z4, z⟩
    own := fun p hp => by
      rw [List.mem_singleton.mp hp]
      refine ⟨⟨[], 0, hDv, rfl⟩, Bs.none_of hE.keep hD, fun z => ?_⟩
      rcases List.mem_cons.mp z with z | z
      · exact hDC z
      · rcases List.mem_append.mp z with z | z
        · obtain ⟨q, hq, z⟩ := List.mem_map.mp z
          obtain ⟨o, e⟩ := livehid _ (hclh q hq)
          rw [show q.2 = D from z, hD] at e; cases e
        · rcases List.mem_append.mp z with z | z
          · exact hDw z
          · obtain ⟨o, e⟩ := livehid D z; rw [hD] at e; cases e
    apart := by simp }

theorem turn_outer (elt iter1 iter2 : Expr) (x y : Str) (px py pos : Pos) (scope : Scope) (it acc : Value) (env : Env) :
    compTurn (.ListComp elt [⟨.Name x px, iter1, [], 0⟩, ⟨.Name y py, iter2, [], 0⟩] scope pos) 0 it acc env = (do
      standAt iter1.pos
      match ← pyNext it with
      | none => pure (.done .next)
      | some v =>
        letOwnedTupleGo (.Name x px) it v
        assign (.Name x px) env v
        (do
          let z ← eval iter2 env
          standAt iter2.pos
          let z ← foldedSetIterable iter2 env z
          let _ ← runOwn (.compStart (.ListComp elt [⟨.Name x px, iter1, [], 0⟩, ⟨.Name y py, iter2, [], 0⟩] scope pos) 1 (← holding [z] (pyIter z)) acc env) env)
        again (.compLoop (.ListComp elt [⟨.Name x px, iter1, [], 0⟩, ⟨.Name y py, iter2, [], 0⟩] scope pos) 0 it acc env)) := by
  show (standAt iter1.pos >>= fun _ => pyNext it >>= _) = _
  congr 1; funext _
  congr 1; funext r
  cases r with
  | none => rfl
  | some v =>
    show (letOwnedTupleGo (.Name x px) it v >>= fun _ => _) = _
    congr 1; funext _
    show (assign (.Name x px) env v >>= fun _ => _) = _
    congr 1; funext _
    simp only [bind_assoc]
    rfl

/-- `[elt for x in iter1 for y in iter2]` -/
theorem comp2_run {elt iter1 iter2 : Expr} {x y : Str} {px py pos : Pos} {scope : Scope} {items : List PV} {g : PV → List PV} {f : PV → PV → PV} {Vc : Vars} {RR : Value → Addr → Result → Shared → Prop}
    (co : CompOk C V Vc scope x) (hy : scope.names.lookup y = some .local) (hxy : x ≠ y) (hVx : Vc.lookup x = none) (hVy : Vc.lookup y = none) (hi : It C V M iter1 items)
    (hi2 : ∀ Ca, ∀ p ∈ items, ∀ M', It (compCx C scope Ca) ((x, p) :: Vc) M' iter2 (g p)) (hs2 : ∀ env x, foldedSetIterable iter2 env x = pure x)
    (hbody : ∀ Ca, ∀ p ∈ items, ∀ q ∈ g p, ∀ M', EV (compCx C scope Ca) ((y, q) :: (x, p) :: Vc) M' elt (f p q)) (hsz : (items.flatMap fun p => (g p).map (f p)).length ≤ sizeLine)
    (ok : C.Ok) {B : Bs} {s : Shared} {E : Value → Shared → Prop} (hE : Est C B V M s.heap) (tk : 0 < s.toks)
    (fin : ∀ D Ca ys n m h' t', s.heap.get? D = none → s.heap.get? Ca = none → D ≠ Ca → Keep s.heap h' → h'.get? D = some (listObj ys n) → RepL C.w.params (vis h' (Ca :: C.hid B M)) (items.flatMap fun p => (g p).map (f p)) ys → h'.Ns Ca m →
      RR (.ref D) Ca (.ok .next) { s with heap := h', toks := t' }) :
    wpAny (model C.prog C.w) C.A (eval iter1 C.env) (fun xv s₁ => wpAny (model C.prog C.w) C.A (pyIter xv) (fun it s₂ => wpAny (model C.prog C.w) C.A (newList []) (fun acc s₃ => wpAny (model C.prog C.w) C.A (newFunctionEnv scope C.env.globals (clOf scope C.env) [] C.env.qual none .none (some C.env)) (fun cenv s₄ =>
      codeAny (model C.prog C.w) C.A (.compStart (.ListComp elt [⟨.Name x px, iter1, [], 0⟩, ⟨.Name y py, iter2, [], 0⟩] scope pos) 0 it acc { cenv with scope := relabel scope C.env }) (RR acc cenv.locals) s₄) E s₃) E s₂) E s₁) E s := by
  refine hi ok B s _ E hE tk fun I fp wr P St h1 t1 k1 W st0 hwf hlv hfp hP pt1 => ?_
  refine wpAny_newObj_type (wpAny_newFunctionEnv co.cell (by intro y hy; simp at hy) (fun h3 hns3 hsb3 => ?_) co.kind)
  have e0 := get_size h1
  have ePush : (h1.push (listObj [] 0)).objs.size = h1.objs.size + 1 := Heap.size_push ..
  have eC := get_size (h1.push (listObj [] 0))
  have kD : Keep h1 (h1.push (listObj [] 0)) := Keep.rfl.push _
  have k13 : Keep h1 h3 := fun b o e => hsb3.extBut b o (fun q => by
    rw [q] at e
    have e' := kD _ _ e
    rw [eC] at e'; cases e') (Heap.get?_push_of_some _ (kD b o e))
  generalize hCa : (h1.push (listObj [] 0)).objs.size = Ca at *
  have hDCa : h1.objs.size ≠ Ca := by omega
  have hDval : h3.get? h1.objs.size = some (listObj [] 0) := hsb3.extBut _ _ hDCa (Heap.get?_push_of_some _ (Heap.get?_push_size _ rfl))
  generalize hDD : h1.objs.size = D at *
  have hns3' : h3.Ns Ca (fun x => ([] : List (Str × Value)).reverse.lookup x) := hns3
  have hCa1 : h1.get? Ca = none := by
    cases q : h1.get? Ca with
    | none => rfl
    | some o => have := kD _ _ q; rw [eC] at this; cases this
  have ks3 : Keep s.heap h3 := k1.trans k13
  have snone : ∀ b, h1.get? b = none → s.heap.get? b = none := fun b e => by
    cases q : s.heap.get? b with
    | none => rfl
    | some o => rw [k1 _ _ q] at e; cases e
  have hwrD : ∀ b ∈ wr, b ≠ D ∧ b ≠ Ca := fun b hb => by
    obtain ⟨o, e⟩ := hlv 0 h1 st0 b hb
    exact ⟨fun q => (by rw [q, e0] at e; cases e), fun q => (by rw [q, hCa1] at e; cases e)⟩
  have st3 : St 0 h3 := W.frame 0 h1 h3 st0 fun b hb o e => k13 b o e
  have E0 : Est (compCx C scope Ca) ⟨B.h₀, wr ++ C.hid B M⟩ Vc [(D, .list [])] h3 := hE.block0 co ks3 hwf (hlv 0 h3 st3) (snone _ hCa1) (snone _ e0) (fun z => (hwrD D z).1 rfl) hDCa hDval hns3'
  have okc : (compCx C scope Ca).Ok := ⟨by show (relabel scope C.env).kind = _; simp [relabel, co.kind], ok.hh, ok.units, ok.depth, ok.gl, ok.bl⟩
  have hw0 : ∀ b ∈ wr, B.h₀.get? b = none := fun b hb => Bs.none_of hE.keep (hwf b hb)
  have E1 := E0.rebaseH (wr := wr) hw0
  have hcl0 : ∀ q ∈ clOf scope C.env, C.env.cells.lookup q.1 = some q.2 := clFrom_mem (fun _ z => nomatch z)
  have hcl : ∀ q ∈ clOf scope C.env, q.2 ∈ C.hid B M := fun q hq => List.mem_append_right _ (List.mem_cons_of_mem _ (List.mem_append_left _ (List.mem_map.mpr ⟨_, mem_of_lookup (hcl0 q hq), rfl⟩)))
  have seen : LookLe (vis h1 (wr ++ C.hid B M)) (vis (hideAll h3 ((compCx C scope Ca).own [(D, .list [])] ++ wr)) ((compCx C scope Ca).hb ⟨hideAll h3 ((compCx C scope Ca).own [(D, .list [])] ++ wr), wr ++ C.hid B M⟩)) := fun a o e => by
    obtain ⟨e1, n⟩ := vis_get e
    have nw : a ∉ wr := fun q => n (List.mem_append_left _ q)
    have nh : a ∉ C.hid B M := fun q => n (List.mem_append_right _ q)
    have nD : a ≠ D := fun q => by rw [q, e0] at e1; cases e1
    have nC : a ≠ Ca := fun q => by rw [q, hCa1] at e1; cases e1
    refine vis_of (hideAll_get _ (k13 _ _ e1) fun hm => ?_) fun hm => ?_
    · rcases List.mem_append.mp hm with q | q
      · rcases List.mem_cons.mp (show a ∈ D :: Ca :: [] from q) with q | q
        · exact nD q
        · exact nC (List.mem_singleton.mp q)
      · exact nw q
    · rcases List.mem_cons.mp (show a ∈ Ca :: _ from hm) with q | q
      · exact nC q
      · rcases List.mem_append.mp q with q | q
        · obtain ⟨z, hz, rfl⟩ := List.mem_map.mp q; exact nh (hcl z hz)
        · rcases List.mem_append.mp q with q | q
          · exact nw q
          · exact nh q
  have kback : Keep B.h₀ (hideAll h3 ((compCx C scope Ca).own [(D, .list [])] ++ wr)) := E0.strip_keep wr hw0
  have loop : ∀ s₄ : Shared, s₄ = { s with heap := h3, toks := t1 + ([] : List (Str × Value)).length } →
      codeAny (model C.prog C.w) C.A (.compLoop (.ListComp elt [⟨.Name x px, iter1, [], 0⟩, ⟨.Name y py, iter2, [], 0⟩] scope pos) 0 (.ref I) (.ref D) (compCx C scope Ca).env) (RR (.ref D) Ca) s₄ := by
    rintro s₄ rfl
    refine comp_level (C := compCx C scope Ca) (F := fun p => (g p).map (f p)) (ps := []) (act := do
      let z ← eval iter2 (compCx C scope Ca).env
      standAt iter2.pos
      let z ← foldedSetIterable iter2 (compCx C scope Ca).env z
      let _ ← runOwn (.compStart (.ListComp elt [⟨.Name x px, iter1, [], 0⟩, ⟨.Name y py, iter2, [], 0⟩] scope pos) 1 (← holding [z] (pyIter z)) (.ref D) (compCx C scope Ca).env) (compCx C scope Ca).env)
      (fun it => turn_outer ..) rfl rfl rfl okc (lookup_relabel_local co.x) hVx E1 (by simpa using pt1) (fun b hb => hideAll_none _ (List.mem_append_right _ hb)) (fun a ha hb => ?_) (fun b hb => ⟨(hwrD b hb).2, fun p hp q => ?_⟩) W st3 hlv
      (fun b hb => (hfp b hb).imp id fun ⟨o, z⟩ => ⟨o, seen _ _ z⟩) (fun i p v hp hv => (hP i p v hp hv).get seen) (fun p hp qs' hq' => ?_) fun h' t' e' p' => ?_
    · exact hE.fresh (hwf a hb) ha
    · exact hE.fresh (hwf b hb) (q ▸ hcl p hp)
    · obtain ⟨done, rfl, rest, hr⟩ := hq'
      refine AT.inner (C := compCx C scope Ca) (lookup_relabel_local hy) (by rw [lookup_cons_of, if_neg (Ne.symm hxy)]; exact hVy) (hi2 Ca p hp _) (hs2 _) (fun q hq qs' => hbody Ca p hp q hq _) ?_
      have h1 : (items.flatMap fun p => (g p).map (f p)).length ≤ sizeLine := hsz
      rw [hr, List.flatMap_append, List.flatMap_cons, List.length_append, List.length_append, List.length_map] at h1
      simp only [List.nil_append]
      omega
    · have hm : (D, MO.list ([] ++ items.flatMap fun p => (g p).map (f p))) ∈ [(D, MO.list ([] ++ items.flatMap fun p => (g p).map (f p)))] := List.mem_singleton.mpr rfl
      obtain ⟨⟨ys, n, q1, q2⟩, _, _⟩ := e'.own _ hm
      obtain ⟨mm, cm, g1, _⟩ := e'.vars
      refine fin D Ca ys n mm h' t' (snone _ e0) (snone _ hCa1) hDCa (fun b o e => e'.keep b o (hideAll_get _ (ks3 b o e) fun hm => ?_)) q1 (RepL.mono (vis_sub fun a ha => ?_) _ q2) g1
      · rcases List.mem_append.mp hm with q | q
        · rcases List.mem_cons.mp (show b ∈ D :: Ca :: [] from q) with q | q
          · rw [q, snone _ e0] at e; cases e
          · rw [List.mem_singleton.mp q, snone _ hCa1] at e; cases e
        · rw [hwf b q] at e; cases e
      · rcases List.mem_cons.mp ha with q | q
        · exact List.mem_append_right _ (q ▸ List.mem_cons_self)
        · exact List.mem_append_right _ (List.mem_cons_of_mem _ (List.mem_append_right _ q))
  exact compStart_any (g := ⟨.Name x px, iter1, [], 0⟩) rfl rfl rfl rfl (fun _ => rfl) (loop _ rfl) (W.self 0 _ _ _ st3 (loop _ rfl))

theorem SN.comp2 {elt iter1 iter2 : Expr} {x y : Str} {px py pos : Pos} {scope : Scope} {items : List PV} {g : PV → List PV} {f : PV → PV → PV} {Vc : Vars}
    (co : CompOk C V Vc scope x) (hy : scope.names.lookup y = some .local) (hxy : x ≠ y) (hVx : Vc.lookup x = none) (hVy : Vc.lookup y = none) (hi : It C V M iter1 items) (hs : ∀ x, foldedSetIterable iter1 C.env x = pure x)
    (hi2 : ∀ Ca, ∀ p ∈ items, ∀ M', It (compCx C scope Ca) ((x, p) :: Vc) M' iter2 (g p)) (hs2 : ∀ env x, foldedSetIterable iter2 env x = pure x)
    (hbody : ∀ Ca, ∀ p ∈ items, ∀ q ∈ g p, ∀ M', EV (compCx C scope Ca) ((y, q) :: (x, p) :: Vc) M' elt (f p q)) (hsz : (items.flatMap fun p => (g p).map (f p)).length ≤ sizeLine) :
    SN C V M (eval (.ListComp elt [⟨.Name x px, iter1, [], 0⟩, ⟨.Name y py, iter2, [], 0⟩] scope pos) C.env) (items.flatMap fun p => (g p).map (f p)) := fun ok B s Q E hE tk k => by
  rw [eval_ListComp]
  refine wpAny_comprehension_free (use := none) rfl hs (closureFor_cl co.free) co.kind co.names ?_
  refine comp2_run (RR := fun acc Ca => compPost (model C.prog C.w) C.A E none Q acc Ca) co hy hxy hVx hVy hi hi2 hs2 hbody hsz ok hE tk fun D Ca ys n m h' t' hD hCa hne kp hDv hr hns => ?_
  refine ⟨m, hns, fun h'' hs'' => ?_⟩
  refine k D ys n h'' t' hD (hs''.extBut _ _ hne hDv) (RepL.mono (fun a o e => ?_) _ hr) fun b o e => hs''.extBut _ _ (fun q => by rw [q, hCa] at e; cases e) (kp b o e)
  obtain ⟨e1, e2⟩ := vis_get e
  exact vis_of (hs''.extBut _ _ (fun q => e2 (q ▸ List.mem_cons_self)) e1) fun q => e2 (List.mem_cons_of_mem _ q)
theorem EX1.assignComp2 {elt iter1 iter2 : Expr} {x y z : Str} {px py pz : Pos} {scope : Scope} {pos spos : Pos} {items : List PV} {g : PV → List PV} {f : PV → PV → PV} {Vc : Vars} (hz : C.St z)
    (hsw : swapsWith (.ListComp elt [⟨.Name x px, iter1, [], 0⟩, ⟨.Name y py, iter2, [], 0⟩] scope pos) (some (.Name z pz)) spos.line C.env = pure true)
    (co : CompOk C V Vc scope x) (hy : scope.names.lookup y = some .local) (hxy : x ≠ y) (hVx : Vc.lookup x = none) (hVy : Vc.lookup y = none) (hi : It C V M iter1 items) (hs : ∀ x, foldedSetIterable iter1 C.env x = pure x)
    (hi2 : ∀ Ca, ∀ p ∈ items, ∀ M', It (compCx C scope Ca) ((x, p) :: Vc) M' iter2 (g p)) (hs2 : ∀ env x, foldedSetIterable iter2 env x = pure x)
    (hbody : ∀ Ca, ∀ p ∈ items, ∀ q ∈ g p, ∀ M', EV (compCx C scope Ca) ((y, q) :: (x, p) :: Vc) M' elt (f p q)) (hsz : (items.flatMap fun p => (g p).map (f p)).length ≤ sizeLine)
    (h : K .next ((z, .list (items.flatMap fun p => (g p).map (f p))) :: V) M) :
    EX1 C V M (.Assign [.Name z pz] (.ListComp elt [⟨.Name x px, iter1, [], 0⟩, ⟨.Name y py, iter2, [], 0⟩] scope pos) spos) K := fun ok B s Q E hE tk k => by
  rw [exec_Assign_Name_used _ _ _ _ hsw]
  refine wpAny_bind (wpAny_standAt (wpAny_bind ?_))
  show wpAny _ C.A (do let _ ← comprehension (.ListComp elt [⟨.Name x px, iter1, [], 0⟩, ⟨.Name y py, iter2, [], 0⟩] scope pos) scope C.env _ (PySem.newList []) false (eval iter1 C.env) (some (PySem.assign (.Name z pz) C.env))) _ _ s
  refine wpAny_bind (wpAny_mono (wpAny_comprehension_free (use := some (PySem.assign (.Name z pz) C.env)) (Q := fun _ s' => Q .next s') rfl hs (closureFor_cl co.free) co.kind co.names
    (comp2_run (RR := fun acc Ca => compPost (model C.prog C.w) C.A E (some (PySem.assign (.Name z pz) C.env)) (fun _ s' => Q .next s') acc Ca) co hy hxy hVx hVy hi hi2 hs2 hbody hsz ok hE tk fun D Ca ys n m h' t' hD hCa hne kp hDv hr hns => ?_)) (fun _ s' hq => wpAny_pure (wpAny_pure hq)) fun _ _ e => e)
  show wpAny _ C.A (PySem.assign (.Name z pz) C.env (.ref D)) _ _ _
  refine wpAny_assign_Name (wp_store_over ok hz hE kp hCa hns (l := .list (items.flatMap fun p => (g p).map (f p))) ⟨D, ys, n, rfl, vis_of hDv fun q => ?_, hr⟩ fun h2 t2 e2 => k .next .next _ _ h2 t2 e2 rfl h)
  rcases List.mem_cons.mp q with q | q
  · exact hne q
  · exact hE.fresh hD q
end
end Mine

/-! LayO -/
namespace Mine
open PySem PySem.W PySem.Calls PyProof.Rows
set_option Elab.async false
section
variable {C : Cx} {V : Vars} {M : Owns} {K : Cont}

abbrev keys (M : Owns) : List Addr := M.map (·.1)
/-- a def of the text answers r to ps, owned things M made to M' -/
def FnOkM (prog : Program) (w : World) (mg mb : Str → Option Value) (K : List (Addr × Obj)) (f : Addr) (ps : List PV) (kw : List (Str × Value)) (M : Owns) (r : PV) (M' : Owns) (d : Nat) : Prop :=
  ∀ (A : Around) (X : List Addr) (vs : List Value) (s : Shared) (R : Result → Shared → Prop), A.handled = none → A.units + 4 * d + 20 < cLine → A.depth + d + 5 < recursionLimit → Grd w.params mg mb K (hideAll s.heap (keys M)) → 0 < s.toks →
    (∀ a ∈ X, ∃ o, s.heap.get? a = some o) → (keys M).Nodup → (∀ p ∈ M, p.1 ∉ X) → (∀ p ∈ M, MRep w.params (vis s.heap (keys M ++ X)) s.heap p.1 p.2) → RepL w.params (vis s.heap (keys M ++ X)) ps vs →
    (∀ v h' t', Keep (hideAll s.heap (keys M)) h' → (∀ p ∈ M', MRep w.params (vis h' (keys M' ++ X)) h' p.1 p.2) → Rep w.params (vis h' X) r v → R (.ok (.ret v)) { s with heap := h', toks := t' }) →
    codeAny (model prog w) A (.call (.ref f) ⟨vs, kw⟩) R s
def BindsTo (prog : Program) (w : World) (mg mb : Str → Option Value) (K : List (Addr × Obj)) (fd : FuncData) (kw : List (Str × Value)) (ps : List PV) (names : List Str) (ps' : List PV) : Prop :=
  ∀ (A : Around) (E : Value → Shared → Prop) (X : List Addr) (vs : List Value) (s : Shared) (Q : List (Str × Value) → Shared → Prop), Grd w.params mg mb K s.heap → (∀ a ∈ X, ∃ o, s.heap.get? a = some o) → RepL w.params (vis s.heap X) ps vs →
    (∀ vs' h' t', Keep s.heap h' → vs'.length = names.length → RepL w.params (vis h' X) ps' vs' → Q (names.zip vs') { s with heap := h', toks := t' }) →
    wpAny (model prog w) A (bindArgs fd ⟨vs, kw⟩) Q E s

theorem FnOkM.of_body {prog : Program} {w : World} {mg mb : Str → Option Value} {K : List (Addr × Obj)} {f : Addr} {fd : FuncData} {body : List Stmt} {names : List Str} {ps ps' : List PV} {kw : List (Str × Value)} {M M' : Owns} {r : PV} {d : Nat} (hd : IsDef K f fd) (hb : fd.body = .stmts body)
    (hbind : BindsTo prog w mg mb K fd kw ps names ps') (hnd : names.Nodup) (hlen : ps'.length = names.length)
    (hcn : ∃ ns : List Str, (∀ L, (cellsFrom L fd.scope.names []).map (·.1) = ns) ∧ ns.Nodup)
    (hkind : ∀ L, ∀ x ∈ names, fd.scope.names.lookup x = some .local ∨ (fd.scope.names.lookup x = some .cell ∧ ((cellsFrom L fd.scope.names []).lookup x).isSome = true))
    (h : ∀ A L, EX (calleeCx prog w mg mb K fd A L f d) (names.zip ps') M body (fun fl _ M'' => (fl = .ret r ∨ (fl = .next ∧ r = .none)) ∧ (∀ p ∈ M', p ∈ M'') ∧ (M' ≠ [] → Scalar r))) : FnOkM prog w mg mb K f ps kw M r M' (d + 1) := by
  intro A X vs s R hh hu hdp G tk hX hnod hMX hM hr k
  obtain ⟨o, hK, ho, hclo, hgl, hbl, hkd, hgen, hco, c, oc, cvs, ct, hc1, hc2, hc3, hc4⟩ := hd
  have kh : Keep (hideAll s.heap (keys M)) s.heap := fun b o e => of_hideAll _ e
  have G' := G.kept kh
  refine codeAny_call_function (show A.depth < recursionLimit by omega) (G'.k _ hK) ho hco hgen hb ⟨c, oc, cvs, ct, hc1, G'.k _ hc2, hc3, hc4⟩ ?_
  have hMlive : ∀ a ∈ keys M ++ X, ∃ o, s.heap.get? a = some o := fun a ha => by
    rcases List.mem_append.mp ha with q | q
    · obtain ⟨p, hp, rfl⟩ := List.mem_map.mp q; exact (hM p hp).live
    · exact hX a q
  refine wpAny_tk tk (hbind _ _ (keys M ++ X) vs s _ G' hMlive hr fun vs' hb1 tb1 kb1 hvl rb1 ptb => ?_)
  rw [hclo]
  refine wpAny_tk (s := { s with heap := hb1, toks := tb1 }) ptb (wpAny_newFunctionEnv_cells hkd (fun p hp => hkind _ p.1 (by rw [← zip_names hvl]; exact List.mem_map.mpr ⟨p, hp, rfl⟩)) fun env he s₁ IC pt => ?_)
  subst he
  refine ⟨(G'.kept kb1).lim.keeps IC.toInCall.keep, codeAny_func (body := body) ?_⟩
  obtain ⟨h1, t1, rfl, kp⟩ := IC.done
  replace kp : Keep hb1 h1 := kp
  have ok : (calleeCx prog w mg mb K fd A hb1.objs.size f d).Ok := ⟨hkd, hh, by show A.units + 3 + 4 * d + 20 < cLine; omega, by show A.depth + 1 + d + 5 < recursionLimit; omega, hgl, hbl⟩
  have e0 := get_size hb1
  have snone : ∀ b, hb1.get? b = none → s.heap.get? b = none := fun b e => by
    cases q : s.heap.get? b with
    | none => rfl
    | some o => rw [kb1 _ _ q] at e; cases e
  have hnone : ∀ b, s.heap.get? b = none → (hideAll s.heap (keys M)).get? b = none := fun b e => by
    cases q : (hideAll s.heap (keys M)).get? b with
    | none => rfl
    | some o => rw [kh _ _ q] at e; cases e
  have hcfresh : ∀ p ∈ (callEnvC fd hb1.objs.size f).cells, hb1.get? p.2 = none ∧ hb1.objs.size < p.2 := fun p hp => by
    have := IC.above p.1 p.2 hp
    refine ⟨?_, this⟩
    cases q : hb1.get? p.2 with
    | none => rfl
    | some o => exact absurd (Heap.lt_size q) (Nat.not_lt.mpr (Nat.le_of_lt this))
  have hlk : LookLe (vis hb1 (keys M ++ X)) (vis h1 ((calleeCx prog w mg mb K fd A hb1.objs.size f d).hid ⟨hideAll s.heap (keys M), X⟩ M)) := fun a ob e => by
    obtain ⟨q1, q2⟩ := vis_get e
    refine vis_of (kp _ _ q1) fun hm => ?_
    rcases List.mem_append.mp hm with z | z
    · exact q2 (List.mem_append_left _ z)
    · rcases List.mem_cons.mp (show a ∈ (callEnvC fd hb1.objs.size f).locals :: _ from z) with z | z
      · rw [show a = hb1.objs.size from z, e0] at q1; cases q1
      · rcases List.mem_append.mp z with z | z
        · obtain ⟨p, hp, rfl⟩ := List.mem_map.mp z
          rw [(hcfresh p hp).1] at q1; cases q1
        · exact q2 (List.mem_append_right _ z)
  have hE : Est (calleeCx prog w mg mb K fd A hb1.objs.size f d) ⟨hideAll s.heap (keys M), X⟩ (names.zip ps') M h1 := {
    g := G
    keep := kh.trans (kb1.trans kp)
    liveX := fun a ha => by
      rcases List.mem_cons.mp ha with z | z
      · obtain ⟨o', es, ep, e, _⟩ := IC.toInCall.ns; exact ⟨o', z ▸ e⟩
      · rcases List.mem_append.mp z with z | z
        · obtain ⟨p, hp, rfl⟩ := List.mem_map.mp z
          obtain ⟨o', e, _⟩ := IC.cell _ _ (lookup_of_mem (by obtain ⟨ns, z1, z2⟩ := hcn; show ((cellsFrom (hb1.objs.size + 1) fd.scope.names []).map (·.1)).Nodup; rw [z1]; exact z2) hp)
          exact ⟨o', e⟩
        · obtain ⟨o', e⟩ := hX a z; exact ⟨o', kp _ _ (kb1 _ _ e)⟩
    newL := hnone _ (snone _ e0)
    locC := fun p hp q => by have := (hcfresh p hp).2; rw [show p.2 = hb1.objs.size from q] at this; omega
    cells := fun _ => ⟨fun p hp => hnone _ (snone _ (hcfresh p hp).1), IC.apart⟩
    vars := by
      refine ⟨_, _, IC.toInCall.ns, IC.cell, fun x pv e => ?_⟩
      obtain ⟨v, hm, rv⟩ := lookup_zip_mem (ps := ps') (vs := vs') rb1 hlen x pv e
      have hxn : x ∈ names := by rw [← zip_names hvl]; exact List.mem_map.mpr ⟨_, hm, rfl⟩
      refine ⟨v, rv.get hlk, ?_⟩
      rcases hkind (hb1.objs.size + 1) x hxn with q | ⟨q, q'⟩
      · exact .inl ⟨q, bindL_mem (by rw [zip_names hvl]; exact hnd) hm q⟩
      · exact .inr ⟨.inl q, Option.isSome_iff_exists.mp q', bindC_mem (by rw [zip_names hvl]; exact hnd) hm q⟩
    own := fun p hp => by
      have hlk2 : LookLe (vis s.heap (keys M ++ X)) (vis h1 ((calleeCx prog w mg mb K fd A hb1.objs.size f d).hid ⟨hideAll s.heap (keys M), X⟩ M)) := (vis_keep kb1).trans hlk
      refine ⟨(hM p hp).move hlk2 fun o e => kp _ _ (kb1 _ _ e), hideAll_none _ (List.mem_map.mpr ⟨p, hp, rfl⟩), fun z => ?_⟩
      obtain ⟨ob, e⟩ := (hM p hp).live
      rcases List.mem_cons.mp (show p.1 ∈ (callEnvC fd hb1.objs.size f).locals :: _ from z) with z | z
      · have := kb1 _ _ e; rw [show p.1 = hb1.objs.size from z, e0] at this; cases this
      · rcases List.mem_append.mp z with z | z
        · obtain ⟨q, hq, z⟩ := List.mem_map.mp z
          have := kb1 _ _ e; rw [← z, (hcfresh q hq).1] at this; cases this
        · exact hMX p hp z
    apart := hnod }
  refine h A hb1.objs.size ok ⟨hideAll s.heap (keys M), X⟩ { s with heap := h1, toks := t1 } _ _ hE pt fun fl fw V' M'' h' t' e' rf hq => ?_
  obtain ⟨hq, hM', hsc⟩ := hq
  have hfin : ∀ p ∈ M', MRep w.params (vis h' (keys M' ++ X)) h' p.1 p.2 := fun p hp => (e'.own p (hM' p hp)).1.move (vis_sub fun a ha => by
    rcases List.mem_append.mp ha with z | z
    · obtain ⟨q, hq, rfl⟩ := List.mem_map.mp z
      exact List.mem_append_left _ (List.mem_map.mpr ⟨q, hM' q hq, rfl⟩)
    · exact List.mem_append_right _ (List.mem_cons_of_mem _ (List.mem_append_right _ z))) fun _ e => e
  rcases hq with rfl | ⟨rfl, rfl⟩
  · obtain ⟨v, rfl, rv⟩ := rf
    exact k v h' t' e'.keep hfin (rv.get (vis_sub fun a ha => List.mem_cons_of_mem _ (List.mem_append_right _ ha)))
  · cases rf
    exact k .none h' t' e'.keep hfin rfl
theorem FnOk.ofM {prog : Program} {w : World} {mg mb : Str → Option Value} {K : List (Addr × Obj)} {f : Addr} {ps : List PV} {kw : List (Str × Value)} {r : PV} {d : Nat} (h : FnOkM prog w mg mb K f ps kw [] r [] d) : FnOk prog w mg mb K f ps kw r d := by
  intro A X vs s R hh hu hdp G tk hX hr k
  have hid : ∀ b o, s.heap.get? b = some o → (hideAll s.heap []).get? b = some o := fun b o e => hideAll_get _ e (by simp)
  exact h A X vs s R hh hu hdp (G.kept hid) tk hX List.nodup_nil (fun _ q => nomatch q) (fun _ q => nomatch q) hr fun v h' t' kp _ rv => k v h' t' (fun b o e => kp b o (hid b o e)) rv
end
end Mine

/-! LayP -/
namespace Mine
open PySem PySem.W PySem.Calls PyProof.Rows
set_option Elab.async false
section
variable {C : Cx} {V : Vars} {M : Owns} {K : Cont}

theorem Est.updK {B : Bs} {h h' : Heap} {a : Addr} {m m' : MO} {M₁ M₂ : Owns} (hE : Est C B V (M₁ ++ (a, m) :: M₂) h) (hs : KeepBut [a] h h') (hm : MRep C.w.params (C.look B (M₁ ++ (a, m) :: M₂) h') h' a m') : Est C B V (M₁ ++ (a, m') :: M₂) h' := by
  have hs' : ∀ c o, c ≠ a → h.get? c = some o → h'.get? c = some o := fun c o n e => hs c o (fun q => n (List.mem_singleton.mp q)) e
  have hk : (M₁ ++ (a, m') :: M₂).map (·.1) = (M₁ ++ (a, m) :: M₂).map (·.1) := by simp
  have hh : ∀ B, C.hid B (M₁ ++ (a, m') :: M₂) = C.hid B (M₁ ++ (a, m) :: M₂) := fun B => by unfold Cx.hid; rw [hk]
  have hin : (a, m) ∈ M₁ ++ (a, m) :: M₂ := List.mem_append_right _ List.mem_cons_self
  obtain ⟨_, q0, q1⟩ := hE.own _ hin
  have hl : LookLe (C.look B (M₁ ++ (a, m) :: M₂) h) (C.look B (M₁ ++ (a, m') :: M₂) h') := by
    unfold Cx.look; rw [hh]
    exact vis_but (fun c o n e => hs' c o n e) (List.mem_append_left _ (List.mem_map.mpr ⟨_, hin, rfl⟩))
  have hne : ∀ p ∈ M₁ ++ M₂, p.1 ≠ a := fun p hp q => by
    have ap := hE.apart
    rw [List.map_append, List.map_cons] at ap
    have ap2 := (List.nodup_append.mp ap)
    rcases List.mem_append.mp hp with z | z
    · exact ap2.2.2 p.1 (List.mem_map.mpr ⟨p, z, rfl⟩) a List.mem_cons_self q
    · exact (List.nodup_cons.mp ap2.2.1).1 (q ▸ List.mem_map.mpr ⟨p, z, rfl⟩)
  have hlive : ∃ o, h'.get? a = some o := hm.live
  exact {
    g := hE.g
    keep := fun b o e => hs' b o (fun q => by subst q; rw [q0] at e; cases e) (hE.keep b o e)
    liveX := fun b hb => by
      obtain ⟨o, e⟩ := hE.liveX b hb
      exact ⟨o, hs' b o (fun q => q1 (q ▸ hb)) e⟩
    newL := hE.newL
    locC := hE.locC
    cells := hE.cells
    vars := by
      obtain ⟨mm, cm, ⟨o, es, ep, e1, e2⟩, h2, h3⟩ := hE.vars
      refine ⟨mm, cm, ⟨o, es, ep, hs' _ _ (fun q => q1 (q ▸ List.mem_cons_self)) e1, e2⟩, fun n c e => ?_, fun y pv e => ?_⟩
      · obtain ⟨o', e3, e4⟩ := h2 n c e
        exact ⟨o', hs' _ _ (fun q => q1 (q ▸ List.mem_cons_of_mem _ (List.mem_append_left _ (List.mem_map.mpr ⟨_, mem_of_lookup e, rfl⟩)))) e3, e4⟩
      · obtain ⟨v, r, q⟩ := h3 y pv e
        exact ⟨v, r.get hl, q⟩
    own := fun p hp => by
      rcases List.mem_append.mp hp with z | z
      · have hp' : p ∈ M₁ ++ (a, m) :: M₂ := List.mem_append_left _ z
        exact ⟨(hE.own p hp').1.move hl fun o e => hs' _ _ (hne p (List.mem_append_left _ z)) e, (hE.own p hp').2⟩
      · rcases List.mem_cons.mp z with z | z
        · subst z
          refine ⟨hm.move (by unfold Cx.look; rw [hh]; exact .rfl) fun _ e => e, q0, q1⟩
        · have hp' : p ∈ M₁ ++ (a, m) :: M₂ := List.mem_append_right _ (List.mem_cons_of_mem _ z)
          exact ⟨(hE.own p hp').1.move hl fun o e => hs' _ _ (hne p (List.mem_append_right _ z)) e, (hE.own p hp').2⟩
    apart := by rw [hk]; exact hE.apart }

theorem Grd.frag {P : Params} {mg mb : Str → Option Value} {K : List (Addr × Obj)} {h : Heap} (x : Grd P mg mb K h) : Frag.In K h := fun a o e => x.k (a, o) (by
  clear x
  induction K with
  | nil => cases e
  | cons p r ih =>
    obtain ⟨b, q⟩ := p
    rw [List.lookup_cons] at e
    by_cases z : a = b
    · subst z; simp at e; subst e; exact List.mem_cons_self
    · have : (a == b) = false := by simpa using z
      rw [this] at e
      exact List.mem_cons_of_mem _ (ih e))

theorem Call_attr {M : Model} {A : Around} {E : Value → Shared → Prop} {s : Shared} {env : Env} {o : Expr} {name : Str} {apos pos : Pos} {args : List Expr} {kws : List Keyword} {Q : Value → Shared → Prop}
    (hbase : attributeBase o name env (eval o env) = eval o env) (hform : methodCallForm (args.length + kws.length) (backTo pos (starEach args env)) (backToKw pos (keywordEach kws env)) = true) (hline : (apos.endLine == pos.line) = true)
    (h : wpAny M A (eval o env) (fun ov s₁ => ∀ pl, wpAny M A (getMethod ov name pl) (fun m s₂ => wpAny M A (callWith pos m.1 m.2 (backTo pos (starEach args env)) (backToKw pos (keywordEach kws env))) Q E s₂) E s₁) E s) :
    wpAny M A (eval (.Call (.Attribute o name apos) args kws pos) env) Q E s := by
  rw [arm_eval_Call, hbase]
  refine wpAny_bind (wpAny_mono h (fun ov s₁ h₁ => ?_) fun _ _ e => e)
  refine wpAny_bind (wpAny_standAt ?_)
  have hpos : methodCallPos true o env apos pos = pure pos := by unfold methodCallPos; simp [hline]
  unfold methodCall
  rw [hform]
  refine wpAny_bind (wpAny_holding (wpAny_mono (h₁ _) (fun m s₂ h₂ => ?_) fun _ _ e => e))
  exact wpAny_bind (wpAny_of_eq hpos h₂)

/-- the class's method -/
structure Meth (K : List (Addr × Obj)) (Cl : Addr) (name : Str) (f : Addr) : Prop where
  ga : findIn K (.ref Cl) "__getattribute__" = some (some (.builtin "object.__getattribute__"))
  gx : findIn K (.ref Cl) "__getattr__" = some none
  fn : findIn K (.ref Cl) name = some (some (.ref f))
  ty : typeIn K (.ref f) = some (.type "function")
  ne : name ≠ hdrName
theorem inst_at {P : Params} {h : Heap} {x dx Cl : Addr} {n : Nat} {t : Tok} {u : Value} (h1 : h.get? x = some (instObj Cl dx)) (h2 : h.get? dx = some (hdrObj P t u n)) : InstAt h x (instObj Cl dx) Cl (some (hdrObj P t u n)) := ⟨h1, rfl, rfl, h2⟩
theorem Meth.get {Kl : List (Addr × Obj)} {Cl : Addr} {name : Str} {f : Addr} (m : Meth Kl Cl name f) {prog : Program} {w : World} {A : Around} {E : Value → Shared → Prop} {s : Shared} {P : Params} {x dx : Addr} {n : Nat} {t : Tok} {u : Value} {pl : Sem Bool} {Q : Value × List Value → Shared → Prop}
    (X : Frag.In Kl s.heap) (h1 : s.heap.get? x = some (instObj Cl dx)) (h2 : s.heap.get? dx = some (hdrObj P t u n)) (q : Q (.ref f, [.ref x]) s) : wpAny (model prog w) A (getMethod (.ref x) name pl) Q E s := by
  refine method_fn X (inst_at h1 h2) m.ga m.gx m.fn m.ty ?_ q
  have : (hdrName == name) = false := by simpa using Ne.symm m.ne
  simp [shadowIn, lookIn, Value.isStr, DictEntry.refKey, carriedByValue, m.ne.symm]

/-- an argument handed by its name -/
def KwOk (C : Cx) (V : Vars) (M : Owns) (kws : List Keyword) (kw : List (Str × Value)) : Prop :=
  ∀ (pos : Pos), C.Ok → (backToKw pos (keywordEach kws C.env)).all (·.1.isSome) = true ∧ ∀ (B : Bs) (s : Shared) (Q : List Value → Shared → Prop) (E : Value → Shared → Prop), Est C B V M s.heap → 0 < s.toks →
    (∀ ks h' t', Keep s.heap h' → 0 < t' → ((backToKw pos (keywordEach kws C.env)).filterMap (·.1)).zip ks = kw → Q ks { s with heap := h', toks := t' }) → wpAny (model C.prog C.w) C.A (evalAll ((backToKw pos (keywordEach kws C.env)).map (·.2))) Q E s
theorem KwOk.nil : KwOk C V M [] [] := fun pos ok => ⟨rfl, fun B s Q E hE tk k => wpAny_evalAll_nil (k [] s.heap s.toks .rfl tk rfl)⟩
theorem KwOk.bool {name : Str} {b : Bool} {p cp : Pos} {ck : Nat} : KwOk C V M [⟨some name, .Constant (.bool b) ck cp, p⟩] [(name, .bool b)] := fun pos ok =>
  ⟨rfl, fun B s Q E hE tk k => kwAll_cons (wpAny_Constant_bool (kwAll_nil (k [.bool b] s.heap s.toks .rfl tk rfl)))⟩

theorem EVs.argsKw {es : List Expr} {ps : List PV} (h : EVs C V M es ps) {kws : List Keyword} {kw : List (Str × Value)} (hk : KwOk C V M kws kw) {pos : Pos} {f : Value} (ok : C.Ok) {B : Bs} {s : Shared} {Q : Args → Shared → Prop} {E : Value → Shared → Prop} (hE : Est C B V M s.heap) (tk : 0 < s.toks)
    (k : ∀ vs h' t', Keep s.heap h' → Est C B V M h' → 0 < t' → RepL C.w.params (C.look B M h') ps vs → Q ⟨vs, kw⟩ { s with heap := h', toks := t' }) :
    wpAny (model C.prog C.w) C.A (evalArgs f true (backTo pos (es.map fun e => (false, eval e C.env))) (backToKw pos (keywordEach kws C.env))) Q E s := by
  obtain ⟨hall, hk⟩ := hk pos ok
  cases es with
  | nil =>
    cases h
    exact evalArgs_kw_nil hall (hk B s _ E hE tk fun ks h' t' kp pt e => by rw [e]; exact k [] h' t' kp (hE.kept kp) pt rfl)
  | cons e es =>
    refine evalArgs_kw hall (h.run (pos := pos) ok hE tk fun vs h' t' kp e1 p1 r1 => ?_)
    exact hk B { s with heap := h', toks := t' } _ E e1 p1 fun ks h'' t'' kp2 pt e => by rw [e]; exact k vs h'' t'' (kp.trans kp2) (e1.kept kp2) pt (RepL.mono (vis_keep kp2) _ r1)

theorem form_ok {n : Nat} {pos : Pos} {es : List Expr} {env : Env} {kws : List Keyword} (hs : starEach es env = es.map fun e => (false, eval e env)) (hk : (backToKw pos (keywordEach kws env)).all (·.1.isSome) = true) (hn : n < 29) :
    methodCallForm n (backTo pos (starEach es env)) (backToKw pos (keywordEach kws env)) = true := by
  unfold methodCallForm
  have h1 : (backTo pos (starEach es env)).all (fun x => !x.1) = true := by
    rw [hs]
    clear hs
    induction es with
    | nil => rfl
    | cons e es ih => exact ih
  rw [h1, hk]
  simp only [Bool.true_and, decide_eq_true_eq]
  split <;> omega

/-- a method of an object of the class, every argument frozen -/
theorem EV.methI {o : Expr} {name : Str} {apos pos : Pos} {es : List Expr} {kws : List Keyword} {kw : List (Str × Value)} {p : PV} {ps : List PV} {Cl f : Addr} {fd : FuncData} {r : PV} {d : Nat} (ho : EV C V M o (.inst Cl p)) (m : Meth C.K Cl name f) (hs : starEach es C.env = es.map fun e => (false, eval e C.env)) (ha : EVs C V M es ps) (hk : KwOk C V M kws kw)
    (hd : IsDef C.K f fd) (h : FnOk C.prog C.w C.mg C.mb C.K f (.inst Cl p :: ps) kw r d) (hn : d ≤ C.n) (hbase : attributeBase o name C.env (eval o C.env) = eval o C.env) (hline : (apos.endLine == pos.line) = true) (hfew : es.length + kws.length < 29) :
    EV C V M (.Call (.Attribute o name apos) es kws pos) r := fun ok B s Q E hE tk k => by
  refine Call_attr hbase (form_ok hs (hk pos ok).1 hfew) hline (ho.then ok hE tk fun v h1 t1 k1 e1 p1 r1 pl => ?_)
  obtain ⟨x, dx, n, t, u, rfl, g1, g2, g3⟩ := id r1
  refine m.get (s := { s with heap := h1, toks := t1 }) e1.G.frag (vis_get g1).1 (vis_get g2).1 ?_
  obtain ⟨ob, hK, hob, _⟩ := hd
  rw [hs]
  refine callWith_function_kw (o := ob) (fd := fd) (ha.argsKw hk (pos := pos) ok (s := { s with heap := h1, toks := t1 }) e1 p1 fun vs h2 t2 k2 e2 p2 r2 => ⟨⟨e2.G.k _ hK, hob⟩, wpAny_call ?_⟩)
  have hu := ok.units
  have hdp := ok.depth
  refine h C.A (C.hid B M) (.ref x :: vs) { s with heap := h2, toks := t2 } _ ok.hh (by omega) (by omega) e2.G p2 (fun a q => ?_) ⟨_, _, rfl, r1.get (vis_keep k2), r2⟩ fun v h3 t3 k3 r3 => k v h3 t3 (k1.trans (k2.trans k3)) r3
  rcases List.mem_append.mp q with q | q
  · obtain ⟨p, hp, rfl⟩ := List.mem_map.mp q
    exact (e2.own p hp).1.live
  · exact e2.liveX a q
end
end Mine

/-! LayQ -/
namespace Mine
open PySem PySem.W PySem.Calls PyProof.Rows
set_option Elab.async false
section
variable {C : Cx} {V : Vars} {M : Owns} {K : Cont}

/-- the class's one attribute -/
structure HdrCls (Kf : List (Addr × Obj)) (Cl : Addr) : Prop where
  ga : findIn Kf (.ref Cl) "__getattribute__" = some (some (.builtin "object.__getattribute__"))
  no : findIn Kf (.ref Cl) hdrName = some none
  hd : ∃ cd, clsIn Kf Cl = some cd ∧ cd.hasDict = true
theorem handed_ref {u : Value} (h : ∀ i, u ≠ .builtin i) : handedIn u = true := by cases u <;> first | rfl | exact absurd rfl (h _)
theorem EV.attrHdr {o : Expr} {apos : Pos} {Cl : Addr} {p : PV} (ho : EV C V M o (.inst Cl p)) (hc : HdrCls C.K Cl) (hbase : attributeBase o hdrName C.env (eval o C.env) = eval o C.env) (hp : ∀ P L v, Rep P L p v → ∃ a, v = .ref a) :
    EV C V M (.Attribute o hdrName apos) p := fun ok B s Q E hE tk k => by
  rw [arm_eval_Attribute, hbase]
  refine wpAny_bind (ho.then ok hE tk fun v h1 t1 k1 e1 p1 r1 => wpAny_bind (wpAny_standAt (wpAny_bind (wpAny_holding ?_))))
  obtain ⟨x, dx, n, t, u, rfl, g1, g2, g3⟩ := r1
  obtain ⟨a, rfl⟩ := hp _ _ _ g3
  obtain ⟨cd, hcd, hhd⟩ := hc.hd
  have hf : findObj C.K Cl (some (hdrObj C.w.params t (.ref a) n)) hdrName = some (.value (.ref a)) := by
    unfold findObj
    rw [hcd, Option.bind_some, hc.no, Option.bind_some]
    show (PySem.W.ownOf cd _ hdrName).bind _ = _
    unfold PySem.W.ownOf
    rw [if_pos hhd]
    simp [lookIn, Value.isStr]
  refine get_value (s := { s with heap := h1, toks := t1 }) e1.G.frag (inst_at (vis_get g1).1 (vis_get g2).1) hc.ga hf rfl ?_
  exact wpAny_bind (wpAny_letTemporaryGo (wpAny_pure (k _ h1 (t1 + 1) k1 g3)))

/-- the store that __init__ makes -/
structure HdrSet (Kf : List (Addr × Obj)) (Cl : Addr) : Prop where
  st : findIn Kf (.ref Cl) "__setattr__" = some (some (.builtin "object.__setattr__"))
  over : plainOver Kf Cl = true
  tk : takerIn Kf Cl hdrName = some none
  hd : (clsIn Kf Cl).any (·.hasDict) = true
theorem EX1.storeHdr {o e : Expr} {apos pos : Pos} {Cl x dx L : Addr} {M₁ M₂ : Owns} {Kf : List (Addr × Obj)} (ho : EV C V (M₁ ++ (dx, .dict []) :: M₂) o (.at x)) (hv : EV C V (M₁ ++ (dx, .dict []) :: M₂) e (.at L)) (hx : (x, instObj Cl dx) ∈ C.K) (hKf : ∀ p ∈ Kf, p ∈ C.K) (hs : HdrSet Kf Cl)
    (hsw : swapsWith e (some (.Attribute o hdrName apos)) pos.line C.env = pure false) (h : K .next V (M₁ ++ (dx, .dict [(hdrName, .at L)]) :: M₂)) :
    EX1 C V (M₁ ++ (dx, .dict []) :: M₂) (.Assign [.Attribute o hdrName apos] e pos) K := fun ok B s Q E hE tk k => by
  refine plainObj_wpAny_Assign_Attribute (hv.then ok hE tk fun v h1 t1 k1 e1 p1 r1 => ?_) hsw
  refine ho.then ok (s := { s with heap := h1, toks := t1 }) e1 p1 fun ov h2 t2 k2 e2 p2 r2 => ?_
  cases r1; cases r2
  have hin : (dx, MO.dict []) ∈ M₁ ++ (dx, MO.dict []) :: M₂ := List.mem_append_right _ List.mem_cons_self
  obtain ⟨⟨hsm, es, n, q, r⟩, _, _⟩ := e2.own _ hin
  cases r
  have X : Frag.In Kf h2 := fun a ob e => by
    have hm : ∀ {l : List (Addr × Obj)}, l.lookup a = some ob → (a, ob) ∈ l := fun {l} e => by
      induction l with
      | nil => cases e
      | cons p r ih =>
        obtain ⟨b, q⟩ := p
        rw [List.lookup_cons] at e
        by_cases z : a = b
        · subst z; simp at e; subst e; exact List.mem_cons_self
        · have : (a == b) = false := by simpa using z
          rw [this] at e
          exact List.mem_cons_of_mem _ (ih e)
    exact e2.G.k _ (hKf _ (hm e))
  have hx2 : h2.get? x = some (instObj Cl dx) := e2.G.k _ hx
  have I : InstAt h2 x (instObj Cl dx) Cl (some (dictOf [] n)) := ⟨hx2, rfl, rfl, q⟩
  refine set_plain (s := { s with heap := h2, toks := t2 }) X I hs.st ?_
  refine osa_open (s := { s with heap := h2, toks := t2 + 1 }) X I hs.over hs.tk fun b => ?_
  obtain ⟨cd, hc, hd'⟩ := any_some hs.hd
  refine wpAny_bind (wpAny_pure (wpAny_bind (wpAny_bind (wpAny_loadPart hx2 (wpAny_bind ((looks_clsIn X hc).here ?_))))))
  rw [hd']
  refine wpAny_pure (a := some dx) (wpAny_bind (wpAny_pure (wpAny_bind ?_)))
  unfold nsSet
  refine wpAny_bind (wpAny_bind (wpAny_askSetting (wpAny_pure (wpAny_bind (wpAny_mkText (wpAny_bind (wpAny_loadPart q ?_)))))))
  dsimp only
  rw [aRefKeyMayBeTheName_at]
  rw [if_neg (by simp)]
  refine wpAny_updatePart (s := { s with heap := h2, toks := t2 + 1 + 1 }) q ?_
  have hs7 : Heap.SameBut dx h2 (h2.update dx (Obj.putName hdrName (PyData.keyHash C.w.params hdrName) (.str hdrName (t2 + 1)) (.ref L))) := Heap.SameBut.update ..
  obtain ⟨n', hD⟩ : ∃ n', (h2.update dx (Obj.putName hdrName (PyData.keyHash C.w.params hdrName) (.str hdrName (t2 + 1)) (.ref L))).get? dx = some (hdrObj C.w.params (t2 + 1) (.ref L) n') :=
    ⟨_, Heap.get?_update_self _ q rfl⟩
  refine wpAny_bind (wpAny_lookBehind hD (pastItsLine_dict (by show [_].toArray.size ≤ _; rw [sizeLine_eq]; simp)) ?_)
  refine wpAny_pure ?_
  have e7 := e2.upd (m' := .dict [(hdrName, .at L)]) hs7 ⟨hsm, _, n', hD, t2 + 1, .ref L, [], rfl, rfl, rfl⟩
  exact k .next .next _ _ _ _ e7 rfl h
end
end Mine

/-! LayR -/
namespace Mine
open PySem PySem.W PySem.Calls PyProof.Rows
set_option Elab.async false
section
variable {C : Cx} {V : Vars} {M : Owns} {K : Cont}

theorem RepL.sub {P : Params} {h : Heap} {X Y : List Addr} {l : List PV} {vs : List Value} (k : ∀ a ∈ Y, a ∈ X) (r : RepL P (vis h X) l vs) : RepL P (vis h Y) l vs := RepL.mono (vis_sub k) l r
theorem hid_split {B : Bs} {M₁ M₂ : Owns} {a : Addr} {m : MO} {b : Addr} : b ∈ C.hid B (M₁ ++ (a, m) :: M₂) ↔ b ∈ [a] ++ C.hid B (M₁ ++ M₂) := by
  unfold Cx.hid
  simp only [List.map_append, List.map_cons, List.mem_append, List.mem_cons, List.not_mem_nil, or_false]
  constructor
  · rintro ((q | q | q) | q)
    · exact .inr (.inl (.inl q))
    · exact .inl q
    · exact .inr (.inl (.inr q))
    · exact .inr (.inr q)
  · rintro (q | (q | q) | q)
    · exact .inl (.inr (.inl q))
    · exact .inl (.inl q)
    · exact .inl (.inr (.inr q))
    · exact .inr q

/-- a method that makes the list of the object anew -/
theorem EX1.methM {o : Expr} {name : Str} {apos pos spos : Pos} {es : List Expr} {ps : List PV} {Cl f L : Addr} {fd : FuncData} {l l' : List PV} {d : Nat} {M₁ M₂ : Owns} (ho : EV C V (M₁ ++ (L, .list l) :: M₂) o (.inst Cl (.at L))) (m : Meth C.K Cl name f)
    (hs : starEach es C.env = es.map fun e => (false, eval e C.env)) (ha : EVs C V (M₁ ++ (L, .list l) :: M₂) es ps)
    (hd : IsDef C.K f fd) (h : FnOkM C.prog C.w C.mg C.mb C.K f (.inst Cl (.at L) :: ps) [] [(L, .list l)] .none [(L, .list l')] d) (hn : d ≤ C.n)
    (hbase : attributeBase o name C.env (eval o C.env) = eval o C.env) (hline : (apos.endLine == pos.line) = true) (hfew : es.length < 29) (hi : interactive C.env = false) (hsw : swapsWith (.Call (.Attribute o name apos) es [] pos) none spos.line C.env = pure false)
    (hK : K .next V (M₁ ++ (L, .list l') :: M₂)) : EX1 C V (M₁ ++ (L, .list l) :: M₂) (.Expr (.Call (.Attribute o name apos) es [] pos) spos) K := fun ok B s Q E hE tk k => by
  refine wpAny_Expr ?_ hi hsw
  refine Call_attr hbase (form_ok (kws := []) hs rfl (by simpa using hfew)) hline (ho.then ok hE tk fun v h1 t1 k1 e1 p1 r1 pl => ?_)
  obtain ⟨x, dx, n, t, u, rfl, g1, g2, g3⟩ := id r1
  refine m.get (s := { s with heap := h1, toks := t1 }) e1.G.frag (vis_get g1).1 (vis_get g2).1 ?_
  obtain ⟨ob, hKf, hob, _⟩ := hd
  rw [hs]
  refine Calls.callWith_function (o := ob) (fd := fd) (ha.args (pos := pos) ok (s := { s with heap := h1, toks := t1 }) e1 p1 fun vs h2 t2 k2 e2 p2 r2 => ⟨⟨e2.G.k _ hKf, hob⟩, wpAny_call ?_⟩)
  have hu := ok.units
  have hdp := ok.depth
  have hin : (L, MO.list l) ∈ M₁ ++ (L, MO.list l) :: M₂ := List.mem_append_right _ List.mem_cons_self
  obtain ⟨⟨vs2, n2, q, rl⟩, q0, q1⟩ := e2.own _ hin
  have hLX : L ∉ C.hid B (M₁ ++ M₂) := fun z => by
    rcases List.mem_append.mp z with z | z
    · have ap := e2.apart
      rw [List.map_append, List.map_cons] at ap
      have ap2 := List.nodup_append.mp ap
      rw [List.map_append] at z
      rcases List.mem_append.mp z with z | z
      · exact ap2.2.2 L z L List.mem_cons_self rfl
      · exact (List.nodup_cons.mp ap2.2.1).1 z
    · exact q1 z
  have kh : Keep B.h₀ (hideAll h2 [L]) := fun b o e => hideAll_get _ (e2.keep b o e) fun z => by
    rw [List.mem_singleton.mp z, q0] at e; cases e
  refine h C.A (C.hid B (M₁ ++ M₂)) (.ref x :: vs) { s with heap := h2, toks := t2 } _ ok.hh (by omega) (by omega) (e2.g.kept kh) p2 (fun a z => ?_) (by simp) (fun p hp => by rw [List.mem_singleton.mp hp]; exact hLX)
    (fun p hp => by rw [List.mem_singleton.mp hp]; exact ⟨vs2, n2, q, RepL.sub (fun a z => hid_split.mpr z) rl⟩) (RepL.sub (fun a z => hid_split.mpr z) (show RepL _ _ (.inst Cl (.at L) :: ps) (.ref x :: vs) from ⟨_, _, rfl, r1.get (vis_keep k2), r2⟩)) fun v h3 t3 k3 m3 r3 => ?_
  · rcases List.mem_append.mp z with z | z
    · obtain ⟨p, hp, rfl⟩ := List.mem_map.mp z
      refine (e2.own p ?_).1.live
      rcases List.mem_append.mp hp with z | z
      · exact List.mem_append_left _ z
      · exact List.mem_append_right _ (List.mem_cons_of_mem _ z)
    · exact e2.liveX a z
  · have kb : KeepBut [L] h2 h3 := fun b o n e => k3 b o (hideAll_get _ e n)
    obtain ⟨vs3, n3, z1, z2⟩ := m3 (L, .list l') (List.mem_singleton.mpr rfl)
    have e3 := e2.updK (m' := .list l') kb ⟨vs3, n3, z1, RepL.sub (fun a z => hid_split.mp z) z2⟩
    cases r3
    exact k .next .next V _ h3 t3 e3 rfl hK

/-- what makes an object of the class -/
structure HdrMake (Kf : List (Addr × Obj)) (Cl fI : Addr) : Prop where
  mks : makesIn Kf Cl = true
  ini : findIn Kf (.ref Cl) "__init__" = some (some (.ref fI))
  ty : typeIn Kf (.ref fI) = some (.type "function")
  kp : keepIn Kf (.ref Cl) = true
theorem type_call_under {A : Around} {Cl : Addr} {rest : List Value} {kw : List (Str × Value)} : (A.under (.builtin "type.__call__" ⟨.ref Cl :: rest, kw⟩)).handled = A.handled ∧ (A.under (.builtin "type.__call__" ⟨.ref Cl :: rest, kw⟩)).units ≤ A.units + 1 ∧ (A.under (.builtin "type.__call__" ⟨.ref Cl :: rest, kw⟩)).depth ≤ A.depth + 1 := by
  refine ⟨rfl, ?_, ?_⟩
  · show A.units + (Code.builtin "type.__call__" ⟨.ref Cl :: rest, kw⟩).cUnits ≤ _
    exact Nat.le_of_eq rfl
  · show A.depth + (Code.builtin "type.__call__" ⟨.ref Cl :: rest, kw⟩).weight ≤ _
    have : (Code.builtin "type.__call__" ⟨.ref Cl :: rest, kw⟩).weight = 1 := by first | rfl | kernel_rfl
    omega
/-- `y = Cl([])` -/
theorem EX1.makeHdr {y cls : Str} {py np lp cp pos : Pos} {Cl fI : Addr} {d : Nat} (hy : C.St y) (hf : EV C V M (.Name cls np) (.val (.ref Cl))) (hm : HdrMake C.K Cl fI)
    (h : ∀ x dx L, FnOkM C.prog C.w C.mg C.mb ((x, instObj Cl dx) :: C.K) fI [.at x, .at L] [] [(dx, .dict []), (L, .list [])] .none [(dx, .dict [(hdrName, .at L)]), (L, .list [])] d) (hn : d + 1 ≤ C.n)
    (hsw : swapsWith (.Call (.Name cls np) [.List [] lp] [] cp) (some (.Name y py)) pos.line C.env = pure false)
    (hK : ∀ L, K .next ((y, .inst Cl (.at L)) :: V) ((L, .list []) :: M)) : EX1 C V M (.Assign [.Name y py] (.Call (.Name cls np) [.List [] lp] [] cp) pos) K := fun ok B s Q E hE tk k => by
  refine wpAny_Assign_Name (wpAny_Call_NameR (hf.then ok hE tk fun v h1 t1 k1 e1 p1 r1 => ?_)) hsw
  cases r1
  refine callWith_K (K := C.K) (h₀ := h1) e1.G.frag hm.kp (Calls.spliced_cons (wpAny_List (wpAny_items_nil ⟨Nat.zero_le _, Calls.spliced_nil ?_⟩)))
  have e0 := get_size h1
  have kL : Keep h1 (h1.push (listObj [] 0)) := Keep.rfl.push _
  have G1 : C.G (h1.push (listObj [] 0)) := e1.G.kept kL
  refine ⟨G1.frag, wpAny_call ?_⟩
  refine make_core (makes_of G1.frag hm.mks) (looks_findIn G1.frag hm.ini) (fun self => bind_fn G1.frag self hm.ty) (.inl rfl) ?_
  obtain ⟨u1, u2, u3⟩ := type_call_under (A := C.A) (Cl := Cl) (rest := [.ref h1.objs.size]) (kw := [])
  have eL : (h1.push (listObj [] 0)).get? h1.objs.size = some (listObj [] 0) := Heap.get?_push_size _ rfl
  have z1 : (h1.push (listObj [] 0)).objs.size = h1.objs.size + 1 := Heap.size_push ..
  have eD : ((h1.push (listObj [] 0)).push emptyDict).get? (h1.push (listObj [] 0)).objs.size = some emptyDict := Heap.get?_push_size _ rfl
  have z2 : ((h1.push (listObj [] 0)).push emptyDict).objs.size = (h1.push (listObj [] 0)).objs.size + 1 := Heap.size_push ..
  have eX : (((h1.push (listObj [] 0)).push emptyDict).push (instObj Cl (h1.push (listObj [] 0)).objs.size)).get? ((h1.push (listObj [] 0)).objs.size + 1) = some (instObj Cl (h1.push (listObj [] 0)).objs.size) := by
    rw [← z2]; exact Heap.get?_push_size _ rfl
  have eD3 := Heap.get?_push_of_some (instObj Cl (h1.push (listObj [] 0)).objs.size) eD
  have eL3 := Heap.get?_push_of_some (instObj Cl (h1.push (listObj [] 0)).objs.size) (Heap.get?_push_of_some emptyDict eL)
  have k3 : Keep h1 (((h1.push (listObj [] 0)).push emptyDict).push (instObj Cl (h1.push (listObj [] 0)).objs.size)) := ((Keep.rfl.push _).push _).push _
  have nD : h1.get? (h1.push (listObj [] 0)).objs.size = none := by
    cases q : h1.get? (h1.push (listObj [] 0)).objs.size with
    | none => rfl
    | some o => exact absurd (Heap.lt_size q) (by rw [z1]; exact Nat.not_lt.mpr (Nat.le_succ _))
  have nX : h1.get? ((h1.push (listObj [] 0)).objs.size + 1) = none := by
    cases q : h1.get? ((h1.push (listObj [] 0)).objs.size + 1) with
    | none => rfl
    | some o => exact absurd (Heap.lt_size q) (by rw [z1]; exact Nat.not_lt.mpr (Nat.le_trans (Nat.le_succ _) (Nat.le_succ _)))
  have hDL : (h1.push (listObj [] 0)).objs.size ≠ h1.objs.size := by rw [z1]; exact Nat.succ_ne_self _
  have hXL : (h1.push (listObj [] 0)).objs.size + 1 ≠ h1.objs.size := by rw [z1]; omega
  have hsm : ((h1.push (listObj [] 0)).objs.size == sysModules) = false := by
    have : mainGlobals < h1.objs.size := by obtain ⟨o, es, ep, e, _⟩ := e1.G.g; exact Heap.lt_size e
    have h3 : (3 : Nat) < h1.objs.size := this
    have : (h1.push (listObj [] 0)).objs.size ≠ 1 := by rw [z1]; omega
    simpa [sysModules] using this
  generalize hD : (h1.push (listObj [] 0)).objs.size = D at *
  generalize hL : h1.objs.size = L at *
  generalize hh3 : ((h1.push (listObj [] 0)).push emptyDict).push (instObj Cl D) = h3 at *
  have hXD : D + 1 ≠ D := Nat.succ_ne_self _
  have kh : Keep h1 (hideAll h3 [D, L]) := fun b o e => hideAll_get _ (k3 b o e) fun z => by
    rcases List.mem_cons.mp z with z | z
    · rw [z, nD] at e; cases e
    · rw [List.mem_singleton.mp z, e0] at e; cases e
  have hxh : (hideAll h3 [D, L]).get? (D + 1) = some (instObj Cl D) := hideAll_get _ eX fun z => by
    rcases List.mem_cons.mp z with z | z
    · exact hXD z
    · exact hXL (List.mem_singleton.mp z)
  have G3 := e1.G.kept kh
  have G4 : Grd C.w.params C.mg C.mb ((D + 1, instObj Cl D) :: C.K) (hideAll h3 [D, L]) := ⟨G3.g, G3.b, G3.lim, G3.nb, fun p hp => by
    rcases List.mem_cons.mp hp with z | z
    · subst z; exact hxh
    · exact G3.k p z, G3.bb⟩
  have hu := ok.units
  have hdp := ok.depth
  refine codeAny_mono (h (D + 1) D L (C.A.under (.builtin "type.__call__" ⟨[.ref Cl, .ref L], []⟩)) (C.hid B M) [.ref (D + 1), .ref L] { s with heap := h3, toks := t1 } (fun r s' => match r with
      | .ok (.ret v) => v = .none ∧ ∃ h' t', s' = { s with heap := h', toks := t' } ∧ Keep (hideAll h3 [D, L]) h' ∧ (∀ p ∈ ([(D, .dict [(hdrName, .at L)]), (L, .list [])] : Owns), MRep C.w.params (vis h' ([D, L] ++ C.hid B M)) h' p.1 p.2)
      | _ => False) (u1.trans ok.hh) (by omega) (by omega)
      G4 p1 (fun a z => ?_) (by simpa using hDL) (fun p hp z => ?_) (fun p hp => ?_) ⟨_, _, rfl, rfl, _, _, rfl, rfl, rfl⟩ fun v h' t' k' m' r' => ⟨r', h', t', rfl, k', m'⟩) fun r s' z => ?_
  · rcases List.mem_append.mp z with z | z
    · obtain ⟨p, hp, rfl⟩ := List.mem_map.mp z
      obtain ⟨o, e⟩ := (e1.own p hp).1.live
      exact ⟨o, k3 _ _ e⟩
    · obtain ⟨o, e⟩ := e1.liveX a z; exact ⟨o, k3 _ _ e⟩
  · rcases List.mem_cons.mp hp with q | q
    · subst q; exact e1.fresh nD z
    · rw [List.mem_singleton.mp q] at z; exact e1.fresh e0 z
  · rcases List.mem_cons.mp hp with q | q
    · subst q; exact ⟨hsm, [], 0, eD3, rfl⟩
    · rw [List.mem_singleton.mp q]; exact ⟨[], 0, eL3, rfl⟩
  · match r, z with
    | .ok (.ret v), z =>
      obtain ⟨rfl, h', t', rfl, kp', m'⟩ := z
      refine ⟨rfl, ?_⟩
      have kk : Keep h1 h' := kh.trans kp'
      obtain ⟨_, es, nn, q1, t0, v0, rr, rfl, rv, rrr⟩ := m' (D, .dict [(hdrName, .at L)]) List.mem_cons_self
      cases rrr
      cases rv
      obtain ⟨vs0, n0, q2, rl⟩ := m' (L, .list []) (List.mem_cons_of_mem _ List.mem_cons_self)
      cases rl
      have hx' : h'.get? (D + 1) = some (instObj Cl D) := kp' _ _ hxh
      have e4 := (e1.kept kk).add (a := L) (m := .list []) (e1.fresh e0) (Bs.none_of e1.keep e0) ⟨[], n0, q2, rfl⟩ (.inr ⟨h1, kk, e0, e1⟩) ⟨[], n0, q2, rfl⟩
      have nh : ∀ a, h1.get? a = none → a ≠ L → a ∉ C.hid B ((L, .list []) :: M) := fun a e n z => by
        rcases List.mem_cons.mp (show a ∈ L :: C.hid B M from z) with z | z
        · exact n z
        · exact e1.fresh e z
      refine wp_store ok (s := { s with heap := h', toks := t' }) hy e4 (pv := .inst Cl (.at L)) ⟨D + 1, D, nn, t0, .ref L, rfl, vis_of hx' (nh _ nX hXL), vis_of q1 (nh _ nD hDL), rfl⟩ fun h2 t2 e5 => k .next .next _ _ h2 t2 e5 rfl (hK L)
    | .ok .next, z => exact z.elim
    | .ok .brk, z => exact z.elim
    | .ok .cont, z => exact z.elim
    | .error e, z => exact z.elim
end
end Mine

/-! LayS -/
namespace Mine
open PySem PySem.W PySem.Calls PyProof.Rows
set_option Elab.async false
section
variable {C : Cx} {V : Vars} {M : Owns} {K : Cont}

theorem Bi.isNot_none {p : PV} (h : ∀ P L v, Rep P L p v → v ≠ .none) : Bi C V M (compareOp .IsNot) p .none (.bool true) := fun ok B _ _ s Q E hE tk r1 r2 k => by
  cases r2
  exact isnot_none_ne (h _ _ _ r1) (k _ s.heap s.toks .rfl rfl)
theorem Bi.is_type {a b : String} : Bi C V M (compareOp .Is) (.val (.type a)) (.val (.type b)) (.bool (Value.type a == Value.type b)) := fun ok B _ _ s Q E hE tk r1 r2 k => by
  cases r1; cases r2
  exact wpAny_is_plain rfl (k _ s.heap s.toks .rfl rfl)
theorem Bi.isNot_type {a b : String} : Bi C V M (compareOp .IsNot) (.val (.type a)) (.val (.type b)) (.bool (!(Value.type a == Value.type b))) := fun ok B _ _ s Q E hE tk r1 r2 k => by
  cases r1; cases r2
  exact wpAny_isNot_plain rfl (k _ s.heap s.toks .rfl rfl)
/-- `type(x)` -/
theorem EV.typeOf {np pos : Pos} {e : Expr} {p : PV} {T : String} (hf : EV C V M (.Name (Str.ofString "type") np) (.val (.type "type"))) (h : EV C V M e p) (hs : starEach [e] C.env = [(false, eval e C.env)]) (ht : Ty C M p T) (hT : (Value.type T == Value.type "builtin_function_or_method") = false) :
    EV C V M (.Call (.Name (Str.ofString "type") np) [e] [] pos) (.val (.type T)) := fun ok B s Q E hE tk k => by
  refine wpAny_Call_NameR (hf.then ok hE tk fun v h1 t1 k1 e1 p1 r1 => ?_)
  cases r1
  rw [hs]
  refine PySem.callWith_type1 (h.then ok (s := { s with heap := h1, toks := t1 }) e1 p1 fun v h2 t2 k2 e2 p2 r2 => ?_)
  exact call_type_of (ht B V { s with heap := h2, toks := t2 } v e2 r2).1 hT (k _ h2 t2 (k1.trans k2) rfl)
theorem ET.debug {p : Pos} (he : isTrue (.Name (Str.ofString "__debug__") p) C.env (eval (.Name (Str.ofString "__debug__") p) C.env) = (do let v ← eval (.Name (Str.ofString "__debug__") p) C.env; standAt p; holding [v] (truthy v))) : ET C V M (.Name (Str.ofString "__debug__") p) true := fun ok B s Q E hE tk k => by
  refine wpAny_isTrue_value ?_ he
  have : eval (.Name (Str.ofString "__debug__") p) C.env = (do standAt p; debugConstant) := rfl
  rw [this]
  exact wpAny_bind (wpAny_standAt (wpAny_bind (wpAny_rule (wpAny_pure (wpAny_truthy_bool (k s.heap s.toks .rfl))))))

/-- a loop over nothing: an empty owned list -/
theorem EX1.forOwnNil {target iter : Expr} {body : List Stmt} {pos : Pos} {L : Addr} (hv : EV C V M iter (.at L)) (hm : (L, MO.list []) ∈ M) (h : K .next V M) (hs : ∀ x, foldedSetIterable iter C.env x = pure x) : EX1 C V M (.For target iter body [] pos) K := fun ok B s Q E hE tk k => by
  refine wpAny_For (hv.then ok hE tk fun v h1 t1 k1 e1 p1 r1 => ?_) hs
  cases r1
  obtain ⟨⟨vs, n, q, r⟩, _, _⟩ := e1.own _ hm
  cases r
  have hl : h1.IsList L #[] := ⟨_, q, rfl, n, rfl⟩
  refine wpAny_pyIter_list hl ?_
  have e0 := get_size h1
  have kp : Keep h1 (h1.push { cls := .type "list_iterator", data := .fields #[.ref L, .int 0 0] }) := Keep.rfl.push _
  refine codeAny_forLoop_any (fun n s' => s' = { s with heap := h1.push { cls := .type "list_iterator", data := .fields #[.ref L, .int 0 0] }, toks := t1 }) ?_ 0 rfl
  rintro n s' rfl
  refine wpAny_pyNext_list_end ok.hh ⟨_, Heap.get?_push_size _ rfl, rfl, rfl⟩ (hl.push _) rfl fun h' he => ?_
  refine wpAny_execs_nil (k .next .next V M h' t1 (e1.kept fun b o e => he b o (fun z => by rw [z, e0] at e; cases e) (kp b o e)) rfl h)
theorem empty_at {P : Params} {prog : Program} {w : World} {h : Heap} {d : Addr} {n : Nat} (e : h.get? d = some (dictOf [] n)) : h.DictAt (PySem.strKind prog w) d [] n :=
  ⟨_, #[], e, ⟨rfl, rfl, rfl⟩, rfl, fun _ he => by simp at he, Pairs.nil, List.nodup_nil⟩
/-- a loop over the items of an empty dict -/
theorem EX1.forItemsNil {target o : Expr} {body : List Stmt} {apos cpos pos : Pos} (hv : EV C V M o (.dict [])) (h : K .next V M) (hbase : attributeBase o (Str.ofString "items") C.env (eval o C.env) = eval o C.env) (hline : (apos.endLine == cpos.line) = true)
    (hs : ∀ x, foldedSetIterable (.Call (.Attribute o (Str.ofString "items") apos) [] [] cpos) C.env x = pure x) : EX1 C V M (.For target (.Call (.Attribute o (Str.ofString "items") apos) [] [] cpos) body [] pos) K := fun ok B s Q E hE tk k => by
  refine wpAny_For (wpAny_Call_method_lateS hbase rfl hline (hv.then ok hE tk fun v h1 t1 k1 e1 p1 r1 => ?_)) hs
  obtain ⟨d, es, n, rfl, hsm, q, r⟩ := r1
  cases r
  have hd1 := (vis_get q).1
  have hm := empty_at (P := C.w.params) (prog := C.prog) (w := C.w) hd1
  refine ⟨"dict", "dict.items", F.plainAttrs_dict, F.slot_dict_items, F.type_dict_items, hm.dictOf.typeIs, hm.dictOf.mapOf.noDict, ?_⟩
  refine method_meetsIn (s := { s with heap := h1, toks := t1 }) F.slot_dict_items F.entry_dict_items rfl (PySem.evalArgs_none ⟨rfl, hm.dictOf.typeIs, F.args_dict_items_1 _, _, meets_dict_items (PySem.strKind C.prog C.w) d hsm, ⟨[], hm.dictOf⟩, ?_⟩)
  have e0 := get_size h1
  have kp1 : Keep h1 (h1.push { cls := .type "dict_items", data := .fields #[.ref d] }) := Keep.rfl.push _
  refine wpAny_pyIter_items (knd := PySem.strKind C.prog C.w) (d := d) (kvs := []) (ep := n) ⟨_, Heap.get?_push_size _ rfl, rfl, rfl⟩ (hm.at fun o e => kp1 _ _ e) ?_
  have e2 := get_size (h1.push { cls := .type "dict_items", data := .fields #[.ref d] })
  have kp2 : Keep h1 ((h1.push { cls := .type "dict_items", data := .fields #[.ref d] }).push { cls := .type "dict_itemiterator", data := .fields #[.none, .bool false, .ref d, .int 0 0, .int ([] : List (Str × Value)).length 0, .int n 0, .none, .none] }) := kp1.push _
  refine codeAny_forLoop_any (fun _ s' => s' = { s with heap := (h1.push { cls := .type "dict_items", data := .fields #[.ref d] }).push { cls := .type "dict_itemiterator", data := .fields #[.none, .bool false, .ref d, .int 0 0, .int ([] : List (Str × Value)).length 0, .int n 0, .none, .none] }, toks := t1 }) ?_ 0 rfl
  rintro _ s' rfl
  refine wpAny_pyNext_items_end (knd := PySem.strKind C.prog C.w) (kvs := []) ok.hh (Heap.get?_push_size _ rfl) (hm.at fun o e => kp2 _ _ e) rfl fun h' he => ?_
  refine wpAny_execs_nil (k .next .next V M h' t1 (e1.kept fun b o e => he b o (fun z => by have := kp1 _ _ e; rw [z, e2] at this; cases this) (kp2 b o e)) rfl h)

/-- append, the list told by any tree -/
theorem EX1.appendG {o : Expr} {ap pos spos : Pos} {e : Expr} {a : Addr} {M₁ M₂ : Owns} {l : List PV} {p : PV} (hx : EV C V (M₁ ++ (a, .list l) :: M₂) o (.at a)) (hs : starEach [e] C.env = [(false, eval e C.env)]) (he : EV C V (M₁ ++ (a, .list l) :: M₂) e p) (hl : l.length ≤ sizeLine)
    (hbase : attributeBase o (Str.ofString "append") C.env (eval o C.env) = eval o C.env) (hline : (ap.endLine == pos.line) = true) (hi : interactive C.env = false) (hsw : swapsWith (.Call (.Attribute o (Str.ofString "append") ap) [e] [] pos) none spos.line C.env = pure false)
    (h : K .next V (M₁ ++ (a, .list (l ++ [p])) :: M₂)) : EX1 C V (M₁ ++ (a, .list l) :: M₂) (.Expr (.Call (.Attribute o (Str.ofString "append") ap) [e] [] pos) spos) K := fun ok B s Q E hE tk k => by
  refine wpAny_Expr ?_ hi hsw
  refine Call_method1 hbase hs hline (hx.then ok hE tk fun v h1 t1 k1 e1 p1 r1 => ?_)
  cases r1
  have hin : (a, MO.list l) ∈ M₁ ++ (a, MO.list l) :: M₂ := List.mem_append_right _ List.mem_cons_self
  obtain ⟨⟨vs, n, q, r⟩, _, _⟩ := e1.own _ hin
  refine ⟨"list", "list.append", mth_append.pa, mth_append.slot, mth_append.ty, ⟨_, q, rfl⟩, fun b z => by cases z; exact ⟨_, q, rfl⟩, ?_⟩
  refine Calls.callWith_builtin rfl (Calls.evalArgs_plain (Calls.spliced_cons (he.then ok (s := { s with heap := h1, toks := t1 }) e1 p1 fun y h2 t2 k2 e2 p2 r2 => Calls.spliced_nil ?_)))
  obtain ⟨⟨vs, n, q, r⟩, _, _⟩ := e2.own _ hin
  have q' : h2.get? a = some (listObj vs n) := q
  refine call_meets slot_list_append ⟨_, q', rfl⟩ F.entry_list_append (F.args_list_append_2 _ _) (AutoListH.list_append_list_val_0 a vs.toArray n y (by rw [List.size_toArray, r.len]; exact hl)) ⟨q', ?_⟩
  have hs7 : Heap.SameBut a h2 (h2.update a (Obj.mapSeq fun a => a.push y)) := Heap.SameBut.update ..
  obtain ⟨k', hD7⟩ : ∃ k', (h2.update a (Obj.mapSeq fun a => a.push y)).get? a = some (listObj (vs ++ [y]) k') :=
    ⟨_, (Heap.get?_update_self _ q' rfl).trans (by show some (Obj.mk _ _ (Data.seq (vs.toArray.push y) _) _) = some (Obj.mk _ _ (Data.seq (vs ++ [y]).toArray _) _); rw [List.push_toArray])⟩
  have hl7 : LookLe (C.look B (M₁ ++ (a, .list l) :: M₂) h2) (C.look B (M₁ ++ (a, .list l) :: M₂) (h2.update a (Obj.mapSeq fun a => a.push y))) := vis_but (fun c o n e => hs7.extBut c o n e) (List.mem_append_left _ (List.mem_map.mpr ⟨_, hin, rfl⟩))
  have e7 := e2.upd (m' := .list (l ++ [p])) hs7 ⟨_, k', hD7, RepL.snoc (RepL.mono hl7 _ r) (r2.get hl7)⟩
  exact k .next .next _ _ _ t2 e7 rfl h

theorem RepL.set {P : Params} {L : Look} : ∀ {l : List PV} {vs : List Value} {i : Nat} {p : PV} {v : Value}, RepL P L l vs → Rep P L p v → RepL P L (l.set i p) (vs.set i v)
  | [], _, _, _, _, h, _ => by cases h; rfl
  | q :: l, _, 0, p, v, h, r => by obtain ⟨v', r', rfl, _, h2⟩ := h; exact ⟨v, r', rfl, r, h2⟩
  | q :: l, _, i + 1, p, v, h, r => by obtain ⟨v', r', rfl, h1, h2⟩ := h; exact ⟨v', _, rfl, h1, RepL.set h2 r⟩
/-- `a[i] = e`, a owned -/
theorem EX1.setItem {o i e : Expr} {pos' pos : Pos} {a : Addr} {M₁ M₂ : Owns} {l : List PV} {p : PV} {n : Int} (he : EV C V (M₁ ++ (a, .list l) :: M₂) e p) (ho : EV C V (M₁ ++ (a, .list l) :: M₂) o (.at a)) (hi : EV C V (M₁ ++ (a, .list l) :: M₂) i (.int n)) (h0 : 0 ≤ n) (hn : n < l.length) (hf : n < 2 ^ 63)
    (hsw : swapsWith e (some (.Subscript o i pos')) pos.line C.env = pure false) (h : K .next V (M₁ ++ (a, .list (l.set n.toNat p)) :: M₂)) : EX1 C V (M₁ ++ (a, .list l) :: M₂) (.Assign [.Subscript o i pos'] e pos) K := fun ok B s Q E hE tk k => by
  refine wpAny_Assign_Subscript (he.then ok hE tk fun v h1 t1 k1 e1 p1 r1 => ?_) hsw
  refine ho.then ok (s := { s with heap := h1, toks := t1 }) e1 p1 fun ov h2 t2 k2 e2 p2 r2 => ?_
  refine hi.then ok (s := { s with heap := h2, toks := t2 }) e2 p2 fun iv h3 t3 k3 e3 p3 r3 => ?_
  cases r2
  obtain ⟨tt, rfl⟩ := r3
  have hin : (a, MO.list l) ∈ M₁ ++ (a, MO.list l) :: M₂ := List.mem_append_right _ List.mem_cons_self
  obtain ⟨⟨vs, m, q, r⟩, _, _⟩ := e3.own _ hin
  have q' : h3.get? a = some (listObj vs m) := q
  have hl : h3.IsList a vs.toArray := listObj_of q'
  unfold PySem.setItem
  try with_reducible refine wpAny_holding ?_
  refine wpAny_bind (wpAny_sequenceKey (s := { s with heap := h3, toks := t3 }) hl.typeIs (by decide) ?_)
  refine wpAny_bind (wpAny_callSpecial?_slot (s := { s with heap := h3, toks := t3 }) (name := Str.ofString "__setitem__") hl.typeIs slot_list_setitem
    (wpAny_call_entry slot_list_setitem hl.typeIs entry_list_setitem ?_ (args_list_setitem _ _ _)))
  show wpAny _ _ (Builtin.List.listSubscript? (.int n tt) >>= _) _ _ _
  refine wpAny_bind (wpAny_listSubscript_int (fitsIndex_of h0 hf) ?_)
  obtain ⟨j, rfl⟩ := Int.eq_ofNat_of_zero_le h0
  have hj : j < vs.toArray.size := by rw [List.size_toArray, r.len]; omega
  have hx' : vs.toArray[j]? = some vs.toArray[j] := Array.getElem?_eq_getElem hj
  show wpAny _ _ ((seqItemAt a j >>= fun r => pure (r.map (j, ·))) >>= _) _ _ _
  refine wpAny_bind (wpAny_bind (wpAny_seqItemAt (s := { s with heap := h3, toks := t3 }) q' rfl (wpAny_pure ?_)))
  rw [hx']
  show wpAny _ _ (setSeqItemAt a j v >>= _) _ _ _
  have hs7 : Heap.SameBut a h3 (h3.update a (Obj.mapSeq (·.setIfInBounds j v))) := Heap.SameBut.update ..
  obtain ⟨k', hD7⟩ : ∃ k', (h3.update a (Obj.mapSeq (·.setIfInBounds j v))).get? a = some (listObj (vs.set j v) k') :=
    ⟨_, (Heap.get?_update_self _ q' rfl).trans (by show some (Obj.mk _ _ (Data.seq (vs.toArray.setIfInBounds j v) _) _) = some (Obj.mk _ _ (Data.seq (vs.set j v).toArray _) _); rw [List.setIfInBounds_toArray])⟩
  have hl7 : LookLe (C.look B (M₁ ++ (a, .list l) :: M₂) h3) (C.look B (M₁ ++ (a, .list l) :: M₂) (h3.update a (Obj.mapSeq (·.setIfInBounds j v)))) := vis_but (fun c o n e => hs7.extBut c o n e) (List.mem_append_left _ (List.mem_map.mpr ⟨_, hin, rfl⟩))
  have e7 := e3.upd (m' := .list (l.set j p)) hs7 ⟨_, k', hD7, RepL.set (RepL.mono hl7 _ r) (r1.get ((vis_keep (k2.trans k3)).trans hl7))⟩
  refine wpAny_bind (wpAny_setSeqItemAt (s := { s with heap := h3, toks := t3 }) q' rfl ?_)
  have fin := k .next .next V _ _ t3 e7 rfl h
  first
    | exact wpAny_bind (wpAny_pure (wpAny_pure ⟨.none, rfl, wpAny_pure fin⟩))
    | exact wpAny_pure ⟨.none, rfl, wpAny_pure fin⟩

theorem RepL.scalar {P : Params} {L L' : Look} : ∀ {l : List PV} {vs : List Value}, (∀ p ∈ l, Scalar p) → RepL P L l vs → RepL P L' l vs
  | [], _, _, h => h
  | p :: l, _, hs, h => by obtain ⟨v, r, rfl, h1, h2⟩ := h; exact ⟨v, r, rfl, hs p List.mem_cons_self _ _ _ _ h1, RepL.scalar (fun q hq => hs q (List.mem_cons_of_mem _ hq)) h2⟩
/-- a fresh list, held as one's own -/
theorem EX1.assignOwn {x : Str} {pos' pos : Pos} {e : Expr} {l : List PV} (hk : C.St x) (hv : SN C V M (eval e C.env) l) (hsc : ∀ p ∈ l, Scalar p) (hs : swapsWith e (some (.Name x pos')) pos.line C.env = pure false) (h : ∀ a, K .next ((x, .at a) :: V) ((a, .list l) :: M)) :
    EX1 C V M (.Assign [.Name x pos'] e pos) K := fun ok B s Q E hE tk k => by
  refine wpAny_Assign_Name (wpAny_tk tk (hv ok B s _ E hE tk fun a vs n h1 t1 e0 e1 r k1 pt => ?_)) hs
  have e2 := (hE.kept k1).add (a := a) (m := .list l) (hE.fresh e0) (Bs.none_of hE.keep e0) ⟨vs, n, e1, r⟩ (.inr ⟨s.heap, k1, e0, hE⟩) ⟨vs, n, e1, RepL.scalar hsc r⟩
  exact wp_store ok (s := { s with heap := h1, toks := t1 }) hk e2 (pv := .at a) rfl fun h2 t2 e3 => k .next .next _ _ h2 t2 e3 rfl (h a)

/-- pairs of a dict display -/
def RepP (P : Params) (L : Look) : List (Str × PV) → List (Value × Value) → Prop
  | [], vs => vs = []
  | (x, p) :: l, vs => ∃ t v r, vs = (.str x t, v) :: r ∧ Rep P L p v ∧ RepP P L l r
theorem RepP.mono {P : Params} {L L' : Look} (hl : LookLe L L') : ∀ {l : List (Str × PV)} {vs : List (Value × Value)}, RepP P L l vs → RepP P L' l vs
  | [], _, h => h
  | (x, p) :: l, _, h => by obtain ⟨t, v, r, e, h1, h2⟩ := h; exact ⟨t, v, r, e, h1.get hl, RepP.mono hl h2⟩
def DT (C : Cx) (V : Vars) (M : Owns) (ks : List (Option Expr)) (vs : List Expr) (Kd : List (Str × PV) → Owns → Prop) : Prop :=
  C.Ok → ∀ (pos : Pos) (B : Bs) (s : Shared) (Q : List (Value × Value) → Shared → Prop) (E : Value → Shared → Prop), Est C B V M s.heap → 0 < s.toks →
    (∀ items M' prs h' t', Keep s.heap h' → Est C B V M' h' → 0 < t' → (∀ a ∈ keys M', a ∈ keys M ∨ s.heap.get? a = none) → RepP C.w.params (C.look B M' h') items prs → Kd items M' → Q prs { s with heap := h', toks := t' }) →
    wpAny (model C.prog C.w) C.A (evalPairs (pairTrees ks vs C.env pos)) Q E s
theorem DT.nil {Kd : List (Str × PV) → Owns → Prop} (h : Kd [] M) : DT C V M [] [] Kd := fun ok pos B s Q E hE tk k => pairTrees_nil_walk (k [] M [] s.heap s.toks .rfl hE tk (fun _ q => .inl q) rfl h)
theorem DT.cons {ke ve : Expr} {ks : List (Option Expr)} {vs : List Expr} {x : Str} {p : PV} {Kd : List (Str × PV) → Owns → Prop} (hk : EV C V M ke (.str x)) (hv : EV C V M ve p) (h : DT C V M ks vs fun items M' => Kd ((x, p) :: items) M') : DT C V M (some ke :: ks) (ve :: vs) Kd := fun ok pos B s Q E hE tk k => by
  refine pairTrees_cons_walk (hk.then ok hE tk fun a h1 t1 k1 e1 p1 r1 => ?_)
  refine hv.then ok (s := { s with heap := h1, toks := t1 }) e1 p1 fun b h2 t2 k2 e2 p2 r2 => ?_
  obtain ⟨t, rfl⟩ := r1
  refine h ok pos B { s with heap := h2, toks := t2 } _ E e2 p2 fun items M' prs h3 t3 k3 e3 p3 hn rp hKd => ?_
  have hl : LookLe (C.look B M h2) (C.look B M' h3) := fun c o z => by
    obtain ⟨z1, z2⟩ := vis_get z
    refine vis_of (k3 _ _ z1) fun q => ?_
    rcases List.mem_append.mp q with q | q
    · rcases hn c q with q | q
      · exact z2 (List.mem_append_left _ q)
      · have q' : h2.get? c = none := q
        rw [q'] at z1; cases z1
    · exact z2 (List.mem_append_right _ q)
  refine k ((x, p) :: items) M' ((.str x t, b) :: prs) h3 t3 (k1.trans (k2.trans k3)) e3 p3 (fun c q => (hn c q).imp id fun q => ?_) ⟨t, b, prs, rfl, r2.get hl, rp⟩ hKd
  have q' : h2.get? c = none := q
  cases z : s.heap.get? c with
  | none => rfl
  | some o => rw [k2 _ _ (k1 _ _ z)] at q'; cases q'
theorem DT.own {ke ve : Expr} {ks : List (Option Expr)} {vs : List Expr} {x : Str} {l : List PV} {Kd : List (Str × PV) → Owns → Prop} (hk : EV C V M ke (.str x)) (hv : SN C V M (eval ve C.env) l) (hsc : ∀ p ∈ l, Scalar p) (h : ∀ a, DT C V ((a, .list l) :: M) ks vs fun items M' => Kd ((x, .at a) :: items) M') : DT C V M (some ke :: ks) (ve :: vs) Kd := fun ok pos B s Q E hE tk k => by
  refine pairTrees_cons_walk (hk.then ok hE tk fun a h1 t1 k1 e1 p1 r1 => ?_)
  refine wpAny_tk (s := { s with heap := h1, toks := t1 }) p1 (hv ok B { s with heap := h1, toks := t1 } _ E e1 p1 fun a vs n h2 t2 e0 e2 r k2 p2 => ?_)
  obtain ⟨t, rfl⟩ := r1
  have e0' : h1.get? a = none := e0
  have k2' : Keep h1 h2 := k2
  have e3 := (e1.kept k2').add (a := a) (m := .list l) (e1.fresh e0') (Bs.none_of e1.keep e0') ⟨vs, n, e2, r⟩ (.inr ⟨h1, k2', e0', e1⟩) ⟨vs, n, e2, RepL.scalar hsc r⟩
  refine h a ok pos B { s with heap := h2, toks := t2 } _ E e3 p2 fun items M' prs h3 t3 k3 e4 p3 hn rp hKd => ?_
  refine k ((x, .at a) :: items) M' ((.str x t, .ref a) :: prs) h3 t3 (k1.trans (k2'.trans k3)) e4 p3 (fun c q => ?_) ⟨t, .ref a, prs, rfl, rfl, rp⟩ hKd
  have fresh : ∀ c, h1.get? c = none → s.heap.get? c = none := fun c q => by
    cases z : s.heap.get? c with
    | none => rfl
    | some o => rw [k1 _ _ z] at q; cases q
  rcases hn c q with q | q
  · rcases List.mem_cons.mp (show c ∈ a :: keys M from q) with q | q
    · exact .inr (q ▸ fresh _ e0')
    · exact .inl q
  · have q' : h2.get? c = none := q
    refine .inr (fresh _ ?_)
    cases z : h1.get? c with
    | none => rfl
    | some o => rw [k2' _ _ z] at q'; cases q'

theorem RepP.carries {prog : Program} {w : World} {P : Params} {L : Look} : ∀ {l : List (Str × PV)} {vs : List (Value × Value)}, RepP P L l vs → ∃ kvs, Carries (PySem.strKind prog w) vs kvs ∧ kvs.map (·.1) = l.map (·.1) ∧ ∀ es : List DictEntry, KeysOf (PySem.strKind prog w) es.toArray → Pairs (PySem.strKind prog w) es kvs → P = w.params → RepD P L l es
  | [], _, h => by cases h; exact ⟨[], trivial, rfl, fun es _ hp _ => by cases hp; rfl⟩
  | (x, p) :: l, _, h => by
    obtain ⟨t, v, r, rfl, h1, h2⟩ := h
    obtain ⟨kvs, c1, c2, c3⟩ := RepP.carries (prog := prog) (w := w) h2
    refine ⟨(x, v) :: kvs, ⟨by simp [PySem.strKind, Value.isStrOf], rfl, c1⟩, by simp [c2], fun es hk hp hP => ?_⟩
    subst hP
    cases hp with
    | cons g1 g2 g3 =>
      rename_i e es
      obtain ⟨t', hkey⟩ := Value.isStrOf_shape g1
      obtain ⟨k', z1, z2⟩ := hk e (by simp)
      have hkx : k' = x := by
        rw [hkey] at z1
        have : (x == k') = true := z1
        exact (beq_iff_eq.mp this).symm
      subst hkx
      refine ⟨t', e.val, es, ?_, g2 ▸ h1, c3 es (fun d hd => hk d (by simp at hd ⊢; exact .inr hd)) g3 rfl⟩
      obtain ⟨eh, ek, ev⟩ := e
      dsimp only at hkey z2 ⊢
      rw [hkey, z2]
      rfl
theorem RepP.len {P : Params} {L : Look} : ∀ {l : List (Str × PV)} {vs : List (Value × Value)}, RepP P L l vs → vs.length = l.length
  | [], _, h => by cases h; rfl
  | (x, p) :: l, _, h => by obtain ⟨t, v, r, rfl, h1, h2⟩ := h; simp [RepP.len h2]

theorem EX1.assignDict {y : Str} {py dp pos : Pos} {ks : List (Option Expr)} {vs : List Expr} (hy : C.St y) (hall : ks.all (·.isSome) = true) (hl : ks.length = vs.length) (h0 : ks ≠ []) (hlen : ks.length ≤ 15) (hsw : swapsWith (.Dict ks vs dp) (some (.Name y py)) pos.line C.env = pure false)
    (h : DT C V M ks vs fun items M' => (items.map (·.1)).Nodup ∧ K .next ((y, .dict items) :: V) M') : EX1 C V M (.Assign [.Name y py] (.Dict ks vs dp) pos) K := fun ok B s Q E hE tk k => by
  refine wpAny_Assign_Name (wpAny_Dict_walk (knd := PySem.strKind C.prog C.w) hall hl h0 hlen ?_) hsw
  have e0 := get_size s.heap
  have kp : Keep s.heap (s.heap.push emptyDict) := Keep.rfl.push _
  have eD : (s.heap.push emptyDict).get? s.heap.objs.size = some (dictOf [] 0) := Heap.get?_push_size _ rfl
  have hwD : ∀ b ∈ [s.heap.objs.size], s.heap.get? b = none := fun b hb => by rw [List.mem_singleton.mp hb]; exact e0
  have E1 := hE.rebaseW (wr := [s.heap.objs.size]) kp hwD (fun b hb => by rw [List.mem_singleton.mp hb]; exact ⟨_, eD⟩)
  have hnh : s.heap.objs.size ∉ C.hid B M := hE.fresh e0
  have kback : Keep B.h₀ (hideAll (s.heap.push emptyDict) (C.own M ++ [s.heap.objs.size])) := (hE.kept kp).strip_keep _ fun b hb => Bs.none_of hE.keep (hwD b hb)
  have hsm : (s.heap.objs.size == sysModules) = false := by
    have : mainGlobals < s.heap.objs.size := by obtain ⟨o, es, ep, e, _⟩ := hE.G.g; exact Heap.lt_size e
    have h3 : (3 : Nat) < s.heap.objs.size := this
    have : s.heap.objs.size ≠ 1 := by omega
    simpa [sysModules] using this
  refine h ok dp _ { s with heap := s.heap.push emptyDict } _ E E1 tk fun items M' prs h2 t2 k2 e2 p2 hn rp hK => ?_
  obtain ⟨hnd, hK⟩ := hK
  generalize s.heap.objs.size = D at *
  have k2' : Keep (s.heap.push emptyDict) h2 := k2
  obtain ⟨kvs, c1, c2, c3⟩ := rp.carries (prog := C.prog) (w := C.w)
  have hD2 : h2.get? D = some (dictOf [] 0) := k2' _ _ eD
  refine ⟨kvs, c1, (empty_at (P := C.w.params) (prog := C.prog) (w := C.w) hD2).dictOf, fun h' hm hs => ?_⟩
  rw [merged_nil_of_nodup kvs (by rw [c2]; exact hnd)] at hm
  obtain ⟨o, es, ep, ho, ⟨x1, x2, x3⟩, hdat, hkeys, hpairs, _⟩ := hm
  have ho' : h'.get? D = some (dictOf es.toList ep) := by
    rw [ho]
    obtain ⟨oc, od, oda, os⟩ := o
    dsimp only at x1 x2 x3 hdat
    subst x1; subst x2; subst x3; subst hdat
    simp [dictOf]
  have kb : KeepBut [D] h2 h' := fun b o n e => hs.extBut _ _ (fun q => n (List.mem_singleton.mpr q)) e
  have hloc : ∀ b ∈ [D], b ≠ C.env.locals ∧ ∀ p ∈ C.env.cells, b ≠ p.2 := fun b hb => by
    rw [List.mem_singleton.mp hb]
    exact ⟨fun q => hnh (List.mem_append_right _ (q ▸ List.mem_cons_self)), fun p hp q => hnh (List.mem_append_right _ (List.mem_cons_of_mem _ (List.mem_append_left _ (q ▸ List.mem_map.mpr ⟨p, hp, rfl⟩))))⟩
  have hXD : ∀ a ∈ B.X, a ∉ [D] := fun a ha q => hnh (List.mem_append_right _ (List.mem_cons_of_mem _ (List.mem_append_right _ (List.mem_singleton.mp q ▸ ha))))
  have e4 : Est C B V M' h' := (e2.stepX kb (fun b hb => hideAll_none _ (List.mem_append_right _ hb)) hloc hXD).weaken kback hE.g
  have hDM : D ∉ C.hid B M' := fun q => by
    rcases List.mem_append.mp q with q | q
    · obtain ⟨p, hp, z⟩ := List.mem_map.mp q
      exact (e2.own p hp).2.2 (z ▸ List.mem_cons_of_mem _ (List.mem_append_right _ (List.mem_append_left _ (List.mem_singleton.mpr rfl))))
    · exact hnh (List.mem_append_right _ q)
  have hl2 : LookLe (C.look ⟨hideAll (s.heap.push emptyDict) (C.own M ++ [D]), [D] ++ B.X⟩ M' h2) (C.look B M' h') := fun b o z => by
    obtain ⟨z1, z2⟩ := vis_get z
    refine vis_of (kb _ _ (fun q => z2 ?_) z1) fun q => z2 ?_
    · exact List.mem_append_right _ (List.mem_cons_of_mem _ (List.mem_append_right _ (List.mem_append_left _ q)))
    · rcases List.mem_append.mp q with q | q
      · exact List.mem_append_left _ q
      · refine List.mem_append_right _ (Cx.hb_mono (B := ⟨hideAll (s.heap.push emptyDict) (C.own M ++ [D]), [D] ++ B.X⟩) (B' := B) (fun a ha => List.mem_append_right _ ha) _ q)
  have hrd := c3 es.toList (by simpa using hkeys) hpairs rfl
  refine wp_store ok (s := { s with heap := h', toks := t2 + prs.length }) hy e4 (pv := .dict items) ⟨D, es.toList, ep, rfl, hsm, vis_of ho' hDM, RepD.mono hl2 _ hrd⟩ fun h5 t5 e5 => k .next .next _ _ h5 t5 e5 rfl hK
end
end Mine

/-! LayT -/
namespace Mine
open PySem PySem.W PySem.Calls PyProof.Rows
set_option Elab.async false
section
variable {C : Cx} {V : Vars} {M : Owns} {K : Cont}

theorem ET.of_eq {e : Expr} {a b : Bool} (h : ET C V M e a) (q : a = b) : ET C V M e b := q ▸ h
theorem EV.of_eq {e : Expr} {a b : PV} (h : EV C V M e a) (q : a = b) : EV C V M e b := q ▸ h
theorem Bi.of_eq {t : Value → Value → Sem Value} {p q a b : PV} (h : Bi C V M t p q a) (e : a = b) : Bi C V M t p q b := e ▸ h
theorem Bn.of_eq {id : String} {ps : List PV} {a b : PV} (h : Bn C V M id ps a) (e : a = b) : Bn C V M id ps b := e ▸ h
theorem EV.gstr {x s : Str} {t : Tok} {pos : Pos} (hv : C.mg x = some (.str s t)) (hk : C.env.kindOf x = some .globalImplicit) (hd : (x == ("__debug__" : Str)) = false := by decide) : EV C V M (.Name x pos) (.str s) := EV.global hk hv (fun _ _ => ⟨_, rfl⟩) hd
theorem EV.gint {x : Str} {i : Int} {t : Tok} {pos : Pos} (hv : C.mg x = some (.int i t)) (hk : C.env.kindOf x = some .globalImplicit) (hd : (x == ("__debug__" : Str)) = false := by decide) : EV C V M (.Name x pos) (.int i) := EV.global hk hv (fun _ _ => ⟨_, rfl⟩) hd
theorem EV.gref {x : Str} {a : Addr} {pos : Pos} (hv : C.mg x = some (.ref a)) (hk : C.env.kindOf x = some .globalImplicit) (hd : (x == ("__debug__" : Str)) = false := by decide) : EV C V M (.Name x pos) (.val (.ref a)) := EV.global hk hv (fun _ _ => rfl) hd
theorem EV.gat {x : Str} {a : Addr} {pos : Pos} (hv : C.mg x = some (.ref a)) (hk : C.env.kindOf x = some .globalImplicit) (hd : (x == ("__debug__" : Str)) = false := by decide) : EV C V M (.Name x pos) (.at a) := EV.global hk hv (fun _ _ => rfl) hd

/-- a dict of the text, as K holds it -/
def GDict (P : Params) (Kf : List (Addr × Obj)) (a : Addr) (l : List (Str × PV)) : Prop := (a == sysModules) = false ∧ ∃ es n, (∀ mg mb h, Grd P mg mb Kf h → h.get? a = some (dictOf es n)) ∧ ∀ L, RepD P L l es

/-- `x, y = (e, f)`, the stores turned round -/
theorem EX1.assignSwap {x y : Str} {px py tp pos : Pos} {kx : Nat} {e : Expr} {p q : PV} (hx : C.St x) (hy : C.St y) (hv : EV C V M e (.tup [p, q])) (hsw : swapsWithSole [Expr.Tuple [.Name x px, .Name y py] kx tp] e pos.line C.env = pure false)
    (hsw2 : swappedStores [Expr.Tuple [.Name x px, .Name y py] kx tp] e C.env = pure (some [x, y])) (h : K .next ((x, p) :: (y, q) :: V) M) : EX1 C V M (.Assign [.Tuple [.Name x px, .Name y py] kx tp] e pos) K := fun ok B s Q E hE tk k => by
  refine PyProof.Rows.Assign_Tuple_swapped (hv.then ok hE tk fun v h1 t1 k1 e1 p1 r1 => ?_) hsw hsw2
  obtain ⟨a, vs, n, rfl, ea, v0, r, rfl, hr0, v1, r', rfl, hr1, hr2⟩ := r1
  cases hr2
  have hl : LookLe (C.look B M h1) (vis (hideAll h1 (C.own M)) (C.hb ⟨hideAll h1 (C.own M), B.X⟩)) := fun b o e => by
    obtain ⟨z1, z2⟩ := vis_get e
    refine vis_of (hideAll_get _ z1 fun hm => z2 ?_) fun hm => z2 (List.mem_append_right _ hm)
    rcases List.mem_append.mp hm with q | q
    · exact List.mem_append_left _ q
    · rcases List.mem_cons.mp q with q | q
      · exact List.mem_append_right _ (q ▸ List.mem_cons_self)
      · split at q
        · exact List.mem_append_right _ (List.mem_cons_of_mem _ (List.mem_append_left _ q))
        · cases q
  have hT : h1.IsTuple a #[v0, v1] := ⟨_, (vis_get ea).1, rfl, n, rfl⟩
  refine wpAny_unpackItems_tuple (items := #[v0, v1]) ok.hh hT fun h₃ hx₃ => ?_
  have up₃ : Keep h1 h₃ := fun b o x => hx₃ b o (Nat.ne_of_lt (Heap.lt_size x)) x
  have e3 := (e1.rebase).kept up₃
  show wpAny _ C.A (do holding [v0] (bindName C.env y v1); do holding [] (bindName C.env x v0); pure ()) _ _ _
  refine wpAny_bind (wpAny_holding (wpAny_bindName (wpAny_tk (s := { s with heap := h₃, toks := t1 }) p1 (wp_store ok (s := { s with heap := h₃, toks := t1 }) hy e3 ((hr1.get hl).get e3.base_look) fun h4 t4 e4 p4 => ?_))))
  refine wpAny_bind (wpAny_holding (wpAny_bindName (wpAny_tk (s := { s with heap := h4, toks := t4 }) p4 (wp_store ok (s := { s with heap := h4, toks := t4 }) hx e4 ((hr0.get hl).get e4.base_look) fun h5 t5 e5 p5 => ?_))))
  exact wpAny_pure (k .next .next _ _ h5 t5 (e1.back e5) rfl h)

theorem Ty.gdict {a : Addr} {l : List (Str × PV)} (hd : GDict C.w.params C.K a l) : Ty C M (.at a) "dict" := fun B V s v hE r => by
  cases r
  obtain ⟨es, n, g, _⟩ := hd.2
  have q := g _ _ _ hE.G
  exact ⟨⟨_, q, rfl⟩, fun b z => by cases z; exact ⟨_, q, rfl⟩⟩
theorem Bi.notIn_gdict {a : Addr} {l : List (Str × PV)} {x : Str} (hd : GDict C.w.params C.K a l) : Bi C V M (compareOp .NotIn) (.str x) (.at a) (.bool (!(l.lookup x).isSome)) := fun ok B _ _ s Q E hE tk r1 r2 k => by
  obtain ⟨t, rfl⟩ := r1; cases r2
  obtain ⟨hs, hd⟩ := hd
  obtain ⟨es, n, g, r⟩ := hd
  have hm := dict_map (prog := C.prog) (g _ _ _ hE.G) (r (fun _ => none))
  have z := (r (fun _ => none)).kvs x
  refine wpAny_notIn_of (k := x) (by simp [PySem.strKind, Value.isStrOf]) hs hm (k _ s.heap (s.toks + 1) .rfl ?_)
  show Value.bool _ = Value.bool _
  congr 2
  cases hx : l.lookup x with
  | none => rw [hx] at z; simp [findBy, z]
  | some p => rw [hx] at z; obtain ⟨e, h1, _⟩ := z; simp [findBy, h1]
theorem Bn.get2_gdict {a : Addr} {l : List (Str × PV)} {x : Str} {d : PV} (hd : GDict C.w.params C.K a l) : Bn C V M "dict.get" [.at a, .str x, d] ((l.lookup x).getD d) := fun ok B vs s Q E hE tk r k => by
  obtain ⟨v, r', rfl, rfl, v', r'', rfl, ⟨u, rfl⟩, v3, r3, rfl, rd, h2⟩ := r; cases h2
  obtain ⟨hs, hd⟩ := hd
  obtain ⟨es, n, g, r⟩ := hd
  have hm := dict_map (prog := C.prog) (g _ _ _ hE.G) (r (C.look B M s.heap))
  have z := (r (C.look B M s.heap)).kvs x
  refine call_meetsIn F.slot_dict_get hm.typeIs F.entry_dict_get (F.args_dict_get_3 _ _ _) (meets_dict_get_default (PySem.strKind C.prog C.w) a (k := x) (by simp [PySem.strKind, Value.isStrOf]) hs v3) ⟨_, hm, k _ s.heap (s.toks + 1) .rfl ?_⟩
  cases hx : l.lookup x with
  | none => rw [hx] at z; simpa [findBy, z] using rd
  | some p => rw [hx] at z; obtain ⟨e, h1, h2⟩ := z; simpa [findBy, h1] using h2
theorem EV.neg {e : Expr} {pos : Pos} {i : Int} (h : EV C V M e (.int i)) : EV C V M (.UnaryOp .USub e pos) (.int (-i)) := fun ok B s Q E hE tk k => by
  refine wpAny_UnaryOp (h.then ok hE tk fun v h1 t1 k1 e1 p1 r1 => ?_)
  obtain ⟨t, rfl⟩ := r1
  exact PyProof.Rows.neg_int (k _ h1 (t1 + 1) k1 ⟨_, rfl⟩)
abbrev vat (V : Vars) (x : Str) : Option PV := List.lookup x V
theorem lk {V : Vars} {x y : Str} {p q : PV} (h : V.lookup y = some p) (n : (y == x) = false := by decide) : List.lookup y ((x, q) :: V) = some p := by
  rw [List.lookup_cons, n]; exact h
end
end Mine

/-! LayU -/
namespace Mine
open PySem PySem.W PySem.Calls PyProof.Rows PySem.Builtin PySem.Builtin.Re
set_option Elab.async false
set_option maxRecDepth 100000

theorem plainAttrs_pat : PlainAttrs "re.Pattern" :=
  ⟨⟨"object.__getattribute__", by rw [typeLookup_type, builtinLookup_eq_fast]; kernel_rfl, by decide +kernel⟩, by rw [typeLookup_type, builtinLookup_eq_fast]; kernel_rfl⟩
theorem slot_pat_search : Slot "re.Pattern" "search" "re.Pattern.search" :=
  .of (owner := "re.Pattern") (n := "search") (by rw [typeLookup_type, builtinLookup_eq_fast]; kernel_rfl) (by decide +kernel) (by decide +kernel) (by decide +kernel)
    (by first | exact .inl (by decide +kernel) | exact .inr (by decide +kernel)) (by rw [isSubtype_type]; kernel_rfl)
theorem type_pat_search : typeOf (.builtin "re.Pattern.search") = pure (.type "method_descriptor") := by show builtinType _ = _; rw [builtinType_eq_fast]; kernel_rfl
theorem entry_pat_search : entryFor table "re.Pattern.search" = some Builtin.«re.Pattern.search» := entryFor_of_tree (by kernel_rfl)
theorem args_pat_search (a b : Value) : argsOk "re.Pattern.search" ⟨[a, b], []⟩ := by unfold argsOk; kernel_rfl
theorem mth_search : Mth "re.Pattern" "search" "re.Pattern.search" := ⟨plainAttrs_pat, slot_pat_search, type_pat_search⟩

/-- no sign of the text is let in by the pattern's first set -/
def NoneIn (code : Array Nat) (text : List Nat) : Prop := ∀ c ∈ text, ∀ seen, ∃ seen', Sre.inSet code c code.size 5 true seen = .ok (false, seen')
theorem admitted_none {m : Sre.M} (h : ∀ s, s < m.lim → ∀ seen, ∃ seen', Sre.inSet m.code (m.text.getD s 0) m.code.size 5 true seen = .ok (false, seen')) : ∀ (fuel s : Nat) (seen : Sre.Seen), ∃ seen', m.admitted fuel s seen = .ok (none, seen')
  | 0, _, seen => ⟨seen, rfl⟩
  | fuel + 1, s, seen => by
    unfold Sre.M.admitted
    by_cases q : s ≥ m.lim
    · rw [if_pos q]; exact ⟨seen, rfl⟩
    · rw [if_neg q]
      obtain ⟨seen', e⟩ := h s (Nat.lt_of_not_le q) seen
      rw [e]
      exact admitted_none h fuel (s + 1) seen'
theorem from_none {m : Sre.M} (hc : m.hasFirstSet = true) (hf : m.frames = []) (ho : m.outcome = none) (h : ∀ s, s < m.lim → ∀ seen, ∃ seen', Sre.inSet m.code (m.text.getD s 0) m.code.size 5 true seen = .ok (false, seen')) (s : Nat) (b : Bool) :
    (m.attemptFrom s b).answer = some false ∧ (m.attemptFrom s b).frames = [] ∧ (m.attemptFrom s b).outcome = none := by
  unfold Sre.M.attemptFrom
  rw [hc]
  simp only [Bool.not_true, Bool.false_eq_true, if_false]
  obtain ⟨seen', e⟩ := admitted_none h (m.lim + 1 - s) s m.seen
  rw [e]
  exact ⟨rfl, hf, ho⟩
def firstSet (code : Array Nat) : Bool := (match Sre.ops[code.getD 0 0]? with | some .INFO => true | _ => false) && code.getD 2 0 == 4
theorem search_none {code : Array Nat} {text : List Nat} {lim : Nat} (hlim : lim = text.length) (hc : firstSet code = true) (hn : NoneIn code text) :
    (Sre.forSearch code text.toArray 0 0 lim false).answer = some false ∧ (Sre.forSearch code text.toArray 0 0 lim false).frames = [] ∧ (Sre.forSearch code text.toArray 0 0 lim false).outcome = none := by
  subst hlim
  unfold Sre.forSearch
  dsimp only
  split
  · exact ⟨rfl, rfl, rfl⟩
  · refine from_none ?_ rfl rfl (fun s hs seen => ?_) 0 true
    · exact hc
    have hs' : s < text.length := hs
    have : text.toArray.getD s 0 = text[s] := by simp [hs']
    have hm := hn text[s] (List.getElem_mem hs') seen
    rw [← this] at hm
    exact hm
theorem drive_none {M : Model} {A : Around} {E : Value → Shared → Prop} {s : Shared} {m : Sre.M} {Q : Option Sre.M → Shared → Prop} (h1 : m.answer = some false) (h2 : m.frames = []) (h3 : m.outcome = none) (hq : Q none s) : wpAny M A (reRunToEnd m) Q E s := by
  unfold reRunToEnd
  have hd : reDrive (2 ^ 64) m = pure { m with outcome := some .failed } := by
    show reDrive ((2 ^ 64 - 1) + 1) m = _
    unfold reDrive
    have hs : m.step = { m with outcome := some .failed } := by
      unfold Sre.M.step
      rw [h3, h1, h2]; rfl
    have hr : m.runFor reTurnSteps = { m with outcome := some .failed } := by
      show m.runFor 4 = _
      unfold Sre.M.runFor
      rw [h3]
      simp only [Option.isSome_none, Bool.false_eq_true, if_false]
      rw [hs]
      rfl
    simp only [hr]
    rfl
  rw [hd]
  refine wpAny_bind (wpAny_pure ?_)
  have key : ∀ (p : Nat → Bool) (l : List Nat) (Q' : PUnit → Shared → Prop), Q' PUnit.unit s → wpAny M A (forIn l PUnit.unit fun (i : Nat) (_ : PUnit) => if p i = true then (rule (Sre.names.getD i "") >>= fun _ => (pure (ForInStep.yield PUnit.unit) : Sem (ForInStep PUnit))) else (pure (ForInStep.yield PUnit.unit) : Sem (ForInStep PUnit))) Q' E s := by
    intro p l
    induction l with
    | nil => intro Q' h; exact wpAny_pure h
    | cons a l ih =>
      intro Q' h
      rw [List.forIn_cons]
      refine wpAny_bind ?_
      split
      · exact wpAny_bind (wpAny_rule (wpAny_pure (ih Q' h)))
      · exact wpAny_pure (ih Q' h)
  refine wpAny_bind (key (fun i => m.seen.has i) _ _ ?_)
  exact wpAny_pure hq

/-- a compiled pattern, as K holds it -/
structure PatAt (Kf : List (Addr × Obj)) (a tp : Addr) (code : List Nat) : Prop where
  pat : ∃ p f f2 u u2, (a, ({ cls := .type "re.Pattern", data := .fields #[.str p f, .int 32 f2, .int 0 u, .none, .none, .ref tp, .int 0 u2] } : Obj)) ∈ Kf
  tup : ∃ cs n, (tp, ({ cls := .type "tuple", data := .seq cs n } : Obj)) ∈ Kf ∧ (cs.map reRawOf).map (·.toNat) = code.toArray
section
variable {C : Cx} {V : Vars} {M : Owns} {K : Cont}
theorem Ty.pat {a tp : Addr} {code : List Nat} (hp : PatAt C.K a tp code) : Ty C M (.at a) "re.Pattern" := fun B V s v hE r => by
  cases r
  obtain ⟨p, f, f2, u, u2, hk⟩ := hp.pat
  have q := hE.G.k _ hk
  exact ⟨⟨_, q, rfl⟩, fun b z => by cases z; exact ⟨_, q, rfl⟩⟩
theorem Bn.search_none {a tp : Addr} {code : List Nat} {x : Str} (hp : PatAt C.K a tp code) (hc : firstSet code.toArray = true) (hn : NoneIn code.toArray x.cps.toList) (hz : x.length < 2 ^ 62) : Bn C V M "re.Pattern.search" [.at a, .str x] .none := fun ok B vs s Q E hE tk r k => by
  obtain ⟨v, r', rfl, rfl, v', r'', rfl, ⟨u, rfl⟩, h2⟩ := r; cases h2
  have hT := ((Ty.pat (M := M) hp) B V s (.ref a) hE rfl).1
  obtain ⟨p, f, f2, u1, u2, hk⟩ := hp.pat
  obtain ⟨cs, n, hk2, hcode⟩ := hp.tup
  have q := hE.G.k _ hk
  have q2 := hE.G.k _ hk2
  refine wpAny_call_entry slot_pat_search hT entry_pat_search ?_ (args_pat_search _ _)
  unfold Builtin.«re.Pattern.search»
  refine wpAny_bind ?_
  unfold reTarget
  refine wpAny_bind (wpAny_of_eq (show reNamed "re.Pattern.search" "search" ["string", "pos", "endpos"] 1 [.str x u] [] = pure [some (.str x u), none, none] from rfl) ?_)
  refine wpAny_bind (wpAny_pure (wpAny_bind (wpAny_pure ?_)))
  refine wpAny_bind (wpAny_fieldsOf q rfl ?_)
  refine wpAny_bind (wpAny_of_eq (show reTextOf (.str x u) = pure (x.cps, 0) from rfl) ?_)
  dsimp only
  rw [if_neg (by simp [reRawNat]), if_neg (by simp [reRawNat])]
  refine wpAny_bind (wpAny_of_eq (show reNoCollectionInside (.str x u) 0 = pure () from rfl) ?_)
  have hit : reRawItems (.ref tp) = (seqItems? (.ref tp) >>= fun r => pure ((r.getD #[]).map reRawOf)) := rfl
  show wpAny _ _ (reRawItems (.ref tp) >>= _) _ _ s
  rw [hit]
  refine wpAny_bind (wpAny_bind (wpAny_seqItems q2 rfl (wpAny_pure ?_)))
  refine wpAny_pure ?_
  have hlim : min ((2 ^ 63 - 1 : Int)).toNat x.cps.size = x.cps.toList.length := by
    have : x.cps.size = x.length := rfl
    rw [Nat.min_eq_right (by rw [this]; omega)]; simp
  have hcd : (((some cs).getD #[]).map reRawOf).map (fun x => x.toNat) = code.toArray := hcode
  have hm := Mine.search_none (code := code.toArray) (text := x.cps.toList) (lim := min ((2 ^ 63 - 1 : Int)).toNat x.cps.size) hlim hc hn
  obtain ⟨m1, m2, m3⟩ := hm
  unfold reAnswer
  refine wpAny_bind ?_
  dsimp only
  rw [hcd]
  have ht : x.cps.toList.toArray = x.cps := by simp
  rw [ht] at m1 m2 m3
  refine drive_none m1 m2 m3 ?_
  exact wpAny_pure ⟨_, rfl, k .none s.heap s.toks .rfl rfl⟩
end
end Mine

/-! LayV -/
namespace Mine
open PySem PySem.W PySem.Calls PyProof.Rows
set_option Elab.async false
section
variable {C : Cx} {V : Vars} {M : Owns} {K : Cont}

theorem RepL.strsAre {P : Params} {L : Look} : ∀ {texts : List Str} {vs : List Value}, RepL P L (texts.map .str) vs → StrsAre vs texts
  | [], _, h => by cases h; exact .nil
  | x :: xs, _, h => by
    obtain ⟨v, r, rfl, ⟨t, rfl⟩, h2⟩ := h
    exact .cons x t (RepL.strsAre h2)
theorem Bi.notIn_list {k : Str} {texts : List Str} : Bi C V M (compareOp .NotIn) (.str k) (.list (texts.map .str)) (.bool (!(texts.any (· == k)))) := fun ok B _ _ s Q E hE tk r1 r2 kk => by
  obtain ⟨t, rfl⟩ := r1
  obtain ⟨a, vs, n, rfl, q, r⟩ := r2
  exact notin_list_strs (listObj_of (vis_get q).1) r.strsAre (kk _ s.heap s.toks .rfl rfl)
theorem count_isStrOf (k : Str) : ∀ {vs : List Value} {ys : List Str}, StrsAre vs ys → vs.countP (isStrOf k) = ys.countP (· == k)
  | _, _, .nil => rfl
  | _, _, .cons n t h => by rw [List.countP_cons, List.countP_cons, count_isStrOf k h]; rfl
theorem Bn.count_list {k : Str} {texts : List Str} : Bn C V M "list.count" [.list (texts.map .str), .str k] (.int (texts.countP (· == k))) := fun ok B vs s Q E hE tk r kk => by
  obtain ⟨v, r', rfl, ⟨a, ws, n, rfl, q, r⟩, v', r'', rfl, ⟨t, rfl⟩, h2⟩ := r; cases h2
  have q' := (vis_get q).1
  refine call_meets F.slot_list_count ⟨_, q', rfl⟩ F.entry_list_count (F.args_list_count_2 _ _) (MeetsSeq.list_count a ws.toArray n (.str k t) (isStrOf k) (fun y hy => eq_isStrOf k t r.strsAre y (by simpa using hy))) ⟨q', ?_⟩
  rw [show ws.toArray.toList = ws from rfl, count_isStrOf k r.strsAre]
  exact kk _ s.heap (s.toks + 1) .rfl ⟨_, rfl⟩
theorem mth_count_list : Mth "list" "count" "list.count" := ⟨mth_append.pa, F.slot_list_count, F.type_list_count⟩
theorem strsAre_get {vs : List Value} {ys : List Str} (h : StrsAre vs ys) : ∀ {j : Nat} {v : Value}, vs[j]? = some v → ∃ y t, ys[j]? = some y ∧ v = .str y t := by
  induction h with
  | nil => intro j v e; simp at e
  | cons y t h ih =>
    intro j v e
    cases j with
    | zero => exact ⟨y, t, rfl, by simpa using e.symm⟩
    | succ j => exact ih (by simpa using e)
theorem range_all_eq {xs ys : List Str} (h : xs.length = ys.length) : ((List.range xs.length).all fun j => decide (xs[j]? = ys[j]?)) = decide (xs = ys) := by
  rw [Bool.eq_iff_iff, List.all_eq_true, decide_eq_true_iff]
  constructor
  · intro q
    refine List.ext_getElem? fun j => ?_
    by_cases hj : j < xs.length
    · exact of_decide_eq_true (q j (List.mem_range.mpr hj))
    · rw [List.getElem?_eq_none (by omega), List.getElem?_eq_none (by omega)]
  · rintro rfl j _
    exact decide_eq_true rfl
theorem Bi.eq_strs {xs ys : List Str} : Bi C V M (compareOp .Eq) (.list (xs.map .str)) (.list (ys.map .str)) (.bool (decide (xs = ys))) := fun ok B _ _ s Q E hE tk r1 r2 kk => by
  obtain ⟨a, vs, n, rfl, q, r⟩ := r1
  obtain ⟨b, ws, m, rfl, q', r'⟩ := r2
  have hl := listObj_of (vis_get q).1
  have hb := listObj_of (vis_get q').1
  have e1 := r.len
  have e2 := r'.len
  rw [List.length_map] at e1 e2
  have hu : C.A.units < cLine := by have := ok.units; omega
  by_cases hsz : xs.length = ys.length
  · refine PySem.SeqAt.eq_listAt (e := fun j => decide (xs[j]? = ys[j]?)) hl hb (by rw [List.size_toArray, List.size_toArray]; omega) hu (fun j h1 h2 => ?_) ?_
    · have g1 : vs[j]? = some vs.toArray[j] := by simp at h1 ⊢
      have g2 : ws[j]? = some ws.toArray[j] := by simp at h2 ⊢
      obtain ⟨x, t, k1, k2⟩ := strsAre_get r.strsAre g1
      obtain ⟨y, u, k3, k4⟩ := strsAre_get r'.strsAre g2
      rw [k2, k4]
      intro prog w E Q h
      refine eqBool_str ?_
      have : (x == y) = decide (xs[j]? = ys[j]?) := by
        rw [k1, k3, Bool.eq_iff_iff, beq_iff_eq, decide_eq_true_iff, Option.some.injEq]
      rw [this]; exact h
    · rw [List.size_toArray, e1, range_all_eq hsz]
      exact kk _ s.heap s.toks .rfl rfl
  · refine PySem.SeqAt.eq_list_lengthsAt hl hb (by rw [List.size_toArray, List.size_toArray]; simp; omega) hu ?_
    have : decide (xs = ys) = false := decide_eq_false fun q => hsz (congrArg List.length q)
    rw [this] at kk
    exact kk _ s.heap s.toks .rfl rfl
/-- `a.extend(e)`, a owned, e another list -/
theorem EX1.extend {o : Expr} {ap pos spos : Pos} {e : Expr} {a : Addr} {M₁ M₂ : Owns} {l l2 : List PV} (hx : EV C V (M₁ ++ (a, .list l) :: M₂) o (.at a)) (hs : starEach [e] C.env = [(false, eval e C.env)]) (he : EV C V (M₁ ++ (a, .list l) :: M₂) e (.list l2)) (hl : l.length + l2.length ≤ sizeLine)
    (hbase : attributeBase o (Str.ofString "extend") C.env (eval o C.env) = eval o C.env) (hline : (ap.endLine == pos.line) = true) (hi : interactive C.env = false) (hsw : swapsWith (.Call (.Attribute o (Str.ofString "extend") ap) [e] [] pos) none spos.line C.env = pure false)
    (h : K .next V (M₁ ++ (a, .list (l ++ l2)) :: M₂)) : EX1 C V (M₁ ++ (a, .list l) :: M₂) (.Expr (.Call (.Attribute o (Str.ofString "extend") ap) [e] [] pos) spos) K := fun ok B s Q E hE tk k => by
  refine wpAny_Expr ?_ hi hsw
  refine Call_method1 hbase hs hline (hx.then ok hE tk fun v h1 t1 k1 e1 p1 r1 => ?_)
  cases r1
  have hin : (a, MO.list l) ∈ M₁ ++ (a, MO.list l) :: M₂ := List.mem_append_right _ List.mem_cons_self
  obtain ⟨⟨vs, n, q, r⟩, _, _⟩ := e1.own _ hin
  refine ⟨"list", "list.extend", mth_append.pa, F.slot_list_extend, F.type_list_extend, ⟨_, q, rfl⟩, fun b z => by cases z; exact ⟨_, q, rfl⟩, ?_⟩
  refine Calls.callWith_builtin rfl (Calls.evalArgs_plain (Calls.spliced_cons (he.then ok (s := { s with heap := h1, toks := t1 }) e1 p1 fun y h2 t2 k2 e2 p2 r2 => Calls.spliced_nil ?_)))
  obtain ⟨⟨vs, n, q, r⟩, _, _⟩ := e2.own _ hin
  have q' : h2.get? a = some (listObj vs n) := q
  obtain ⟨b, ws, m, rfl, qb, rb⟩ := r2
  have qb' := (vis_get qb).1
  have z1 := r.len
  have z2 := rb.len
  have hsz : vs.toArray.size + ws.toArray.size ≤ sizeLine := by rw [List.size_toArray, List.size_toArray, z1, z2]; exact hl
  refine call_meets F.slot_list_extend ⟨_, q', rfl⟩ F.entry_list_extend (F.args_list_extend_2 _ _) (AutoSeq1.list_extend_list_list_0 a vs.toArray n b ws.toArray m (extend_door hsz) (by omega) (by omega)) ⟨q', qb', ?_⟩
  have hs7 : Heap.SameBut a h2 (h2.update a (Obj.mapSeq fun a => a ++ ws.toArray)) := Heap.SameBut.update ..
  obtain ⟨k', hD7⟩ : ∃ k', (h2.update a (Obj.mapSeq fun a => a ++ ws.toArray)).get? a = some (listObj (vs ++ ws) k') :=
    ⟨_, (Heap.get?_update_self _ q' rfl).trans (by show some (Obj.mk _ _ (Data.seq (vs.toArray ++ ws.toArray) _) _) = some (Obj.mk _ _ (Data.seq (vs ++ ws).toArray _) _); rw [List.append_toArray])⟩
  have hl7 : LookLe (C.look B (M₁ ++ (a, .list l) :: M₂) h2) (C.look B (M₁ ++ (a, .list l) :: M₂) (h2.update a (Obj.mapSeq fun a => a ++ ws.toArray))) := vis_but (fun c o n e => hs7.extBut c o n e) (List.mem_append_left _ (List.mem_map.mpr ⟨_, hin, rfl⟩))
  have e7 := e2.upd (m' := .list (l ++ l2)) hs7 ⟨_, k', hD7, RepL.app (RepL.mono hl7 _ r) (RepL.mono hl7 _ rb)⟩
  exact k .next .next _ _ _ t2 e7 rfl h
end
end Mine

/-! StrL -/
namespace Mine
open PySem PySem.Builtin PySem.Builtin.Str PySem.StrLaws
set_option Elab.async false

theorem at_iff {x y : Str} {i : Nat} : At x y x.length i ↔ y.cps.toList <+: x.cps.toList.drop i ∧ i ≤ x.length := by
  unfold At
  rw [subAt_eq, beq_iff_eq]
  have hx : x.length = x.cps.toList.length := by simp [Str.length]
  have hy : y.length = y.cps.toList.length := by simp [Str.length]
  constructor
  · rintro ⟨h1, h2⟩
    exact ⟨⟨(x.cps.toList.drop i).drop y.length, by rw [← h2]; exact List.take_append_drop _ _⟩, by omega⟩
  · rintro ⟨⟨t, h⟩, h2⟩
    have hl := congrArg List.length h
    rw [List.length_append, List.length_drop] at hl
    refine ⟨by omega, ?_⟩
    rw [← h, hy, List.take_left]

/-- the scan, told by its steps -/
def gr (P : Nat → Bool) (w : Nat) : (n a free : Nat) → List Nat
  | 0, _, _ => []
  | n + 1, a, free => if free ≤ a ∧ P a = true then a :: gr P w n (a + 1) (a + w) else gr P w n (a + 1) free
theorem occ_gr (s sub : Str) (hi limit : Nat) : ∀ (n a free : Nat) (acc : Array Nat), acc.size + n ≤ limit →
    (forIn (List.range' a n) (acc, free) (occBody s sub hi limit)).run.fst.toList = acc.toList ++ gr (fun i => decide (i + sub.length ≤ hi) && subAt s sub i) sub.length n a free
  | 0, a, free, acc, _ => by simp [gr]
  | n + 1, a, free, acc, h => by
    rw [List.range'_succ, List.forIn_cons]
    unfold occBody gr
    by_cases q : ((acc.size < limit ∧ free ≤ a) ∧ a + sub.length ≤ hi) ∧ subAt s sub a = true
    · rw [if_pos q]
      have q2 : free ≤ a ∧ (decide (a + sub.length ≤ hi) && subAt s sub a) = true := ⟨q.1.1.2, by rw [q.2]; simp [q.1.2]⟩
      rw [if_pos q2]
      have ih := occ_gr s sub hi limit n (a + 1) (a + sub.length) (acc.push a) (by rw [Array.size_push]; omega)
      simp only [pure_bind]
      exact ih.trans (by rw [Array.toList_push]; simp)
    · rw [if_neg q]
      have q2 : ¬(free ≤ a ∧ (decide (a + sub.length ≤ hi) && subAt s sub a) = true) := fun z => by
        have z2 := z.2
        rw [Bool.and_eq_true, decide_eq_true_eq] at z2
        exact q ⟨⟨⟨by omega, z.1⟩, z2.1⟩, z2.2⟩
      rw [if_neg q2]
      have ih := occ_gr s sub hi limit n (a + 1) free acc (by omega)
      simp only [pure_bind]
      exact ih
theorem gr_skip {P : Nat → Bool} {w : Nat} : ∀ (k n a free : Nat), (∀ i, a ≤ i → i < a + k → ¬(free ≤ i ∧ P i = true)) → gr P w (n + k) a free = gr P w n (a + k) free
  | 0, n, a, free, _ => rfl
  | k + 1, n, a, free, h => by
    rw [show gr P w (n + (k + 1)) a free = if free ≤ a ∧ P a = true then a :: gr P w (n + k) (a + 1) (a + w) else gr P w (n + k) (a + 1) free from rfl, if_neg (h a (Nat.le_refl _) (by omega))]
    rw [gr_skip k n (a + 1) free fun i h1 h2 => h i (by omega) (by omega)]
    rw [show a + 1 + k = a + (k + 1) by omega]
theorem gr_take {P : Nat → Bool} {w : Nat} (n a free : Nat) (hf : free ≤ a) (h : P a = true) : gr P w (n + 1) a free = a :: gr P w n (a + 1) (a + w) := by
  rw [gr, if_pos ⟨hf, h⟩]

/-- pieces with a cut between -/
def joinL (y : List Nat) : List (List Nat) → List Nat
  | [] => []
  | [p] => p
  | p :: q :: r => p ++ (y ++ joinL y (q :: r))
def cutsOf (w : Nat) : Nat → List (List Nat) → List Nat
  | _, [] => []
  | _, [_] => []
  | c, p :: q :: r => (c + p.length) :: cutsOf w (c + p.length + w) (q :: r)
/-- the cut stands nowhere else -/
def Clean (y : List Nat) : List (List Nat) → Prop
  | [] => False
  | [p] => ∀ j, ¬ y <+: p.drop j
  | p :: q :: r => (∀ j, j < p.length → ¬ y <+: (p ++ (y ++ joinL y (q :: r))).drop j) ∧ Clean y (q :: r)
theorem gr_clean {x y : Str} (hy : y.cps.toList ≠ []) : ∀ (parts : List (List Nat)) (c n : Nat), Clean y.cps.toList parts → c ≤ x.length → x.cps.toList.drop c = joinL y.cps.toList parts → n + c = x.length + 1 →
    gr (fun i => decide (i + y.length ≤ x.length) && subAt x y i) y.length n c c = cutsOf y.length c parts
  | [], _, _, h, _, _, _ => h.elim
  | [p], c, n, h, hc, e, hn => by
    have key : ∀ i, c ≤ i → ¬((fun i => decide (i + y.length ≤ x.length) && subAt x y i) i = true) := fun i hi z => by
      have z' : At x y x.length i := by simpa [At] using z
      obtain ⟨z1, z2⟩ := at_iff.mp z'
      refine h (i - c) ?_
      have : p = x.cps.toList.drop c := e.symm
      rw [this, List.drop_drop, show c + (i - c) = i by omega]
      exact z1
    have := gr_skip (P := fun i => decide (i + y.length ≤ x.length) && subAt x y i) (w := y.length) n 0 c c fun i h1 _ z => key i h1 z.2
    rw [Nat.zero_add] at this
    rw [this]
    rfl
  | p :: q :: r, c, n, h, hc, e, hn => by
    obtain ⟨h1, h2⟩ := h
    have hxl : x.cps.toList.length = x.length := by simp [Str.length]
    have hyl : y.cps.toList.length = y.length := by simp [Str.length]
    have hylp : 0 < y.length := by rw [← hyl]; exact List.length_pos_iff.mpr hy
    have e' : x.cps.toList.drop c = p ++ (y.cps.toList ++ joinL y.cps.toList (q :: r)) := e
    have hlen := congrArg List.length e'
    rw [List.length_drop, List.length_append, List.length_append, hxl, hyl] at hlen
    have s1 := gr_skip (P := fun i => decide (i + y.length ≤ x.length) && subAt x y i) (w := y.length) p.length (n - p.length) c c fun i i1 i2 z => by
      have z' : At x y x.length i := by simpa [At] using z.2
      obtain ⟨z1, z2⟩ := at_iff.mp z'
      refine h1 (i - c) (by omega) ?_
      rw [← e', List.drop_drop, show c + (i - c) = i by omega]
      exact z1
    rw [show n - p.length + p.length = n by omega] at s1
    rw [s1]
    have hd : x.cps.toList.drop (c + p.length) = y.cps.toList ++ joinL y.cps.toList (q :: r) := by
      rw [← List.drop_drop, e', List.drop_left]
    have hat : (fun i => decide (i + y.length ≤ x.length) && subAt x y i) (c + p.length) = true := by
      have : At x y x.length (c + p.length) := at_iff.mpr ⟨by rw [hd]; exact List.prefix_append _ _, by omega⟩
      simpa [At] using this
    -- the cut itself, then what it covers
    have : ∃ m, n - p.length = (m + (y.length - 1)) + 1 ∧ m + (c + p.length + y.length) = x.length + 1 := ⟨n - p.length - y.length, by omega, by omega⟩
    obtain ⟨m, hm1, hm2⟩ := this
    rw [hm1, gr_take _ _ _ (Nat.le_add_right _ _) hat]
    rw [gr_skip (y.length - 1) m (c + p.length + 1) (c + p.length + y.length) fun i i1 i2 z => by omega]
    rw [show c + p.length + 1 + (y.length - 1) = c + p.length + y.length by omega]
    rw [gr_clean hy (q :: r) (c + p.length + y.length) m h2 (by omega) (by rw [← List.drop_drop, hd, ← hyl, List.drop_left]) hm2]
    rfl
theorem occ_clean {x y : Str} (hy : y.cps.toList ≠ []) {parts : List (List Nat)} (h : Clean y.cps.toList parts) (e : x.cps.toList = joinL y.cps.toList parts) : occurrences x y 0 x.length (x.length + 1) = cutsOf y.length 0 parts := by
  rw [occ_eq]
  have := occ_gr x y x.length (x.length + 1) (x.length + 1) 0 0 #[] (by simp)
  rw [show x.length + 1 - 0 = x.length + 1 from rfl, this]
  simp only [List.nil_append]
  exact gr_clean hy parts 0 (x.length + 1) h (Nat.zero_le _) (by rw [List.drop_zero]; exact e) rfl
abbrev ofL (l : List Nat) : Str := ⟨l.toArray⟩
theorem sub_toL (x : Str) (a b : Nat) : (strSub x a b).cps.toList = (x.cps.toList.drop a).take (b - a) := by
  simp [strSub, List.take_drop]
theorem parts_clean {x y : Str} : ∀ (parts : List (List Nat)) (c : Nat), parts ≠ [] → x.cps.toList.drop c = joinL y.cps.toList parts → partsFrom x y.length c (cutsOf y.length c parts) = parts.map ofL
  | [], _, h, _ => absurd rfl h
  | [p], c, _, e => by
    show [strSub x c x.length] = [ofL p]
    congr 1
    apply Str.ext'
    apply Array.toList_inj.mp
    have e' : x.cps.toList.drop c = p := e
    rw [sub_toL, e']
    have : p.length = x.length - c := by rw [← e', List.length_drop]; simp [Str.length]
    rw [← this, List.take_length]
  | p :: q :: r, c, _, e => by
    have hyl : y.cps.toList.length = y.length := by simp [Str.length]
    have e' : x.cps.toList.drop c = p ++ (y.cps.toList ++ joinL y.cps.toList (q :: r)) := e
    show strSub x c (c + p.length) :: partsFrom x y.length (c + p.length + y.length) (cutsOf y.length (c + p.length + y.length) (q :: r)) = ofL p :: (q :: r).map ofL
    rw [parts_clean (q :: r) (c + p.length + y.length) (by simp) (by
      rw [← List.drop_drop, ← List.drop_drop, e', List.drop_left, ← hyl, List.drop_left])]
    congr 1
    apply Str.ext'
    apply Array.toList_inj.mp
    rw [sub_toL, e', show c + p.length - c = p.length by omega, List.take_left]
theorem between_clean {x y : Str} (hy : y.cps.toList ≠ []) {parts : List (List Nat)} (h : Clean y.cps.toList parts) (e : x.cps.toList = joinL y.cps.toList parts) :
    partsBetween x (occurrences x y 0 x.length (x.length + 1)) y.length = parts.map ofL := by
  have hp : parts ≠ [] := by rintro rfl; exact h
  rw [occ_clean hy h e, partsBetween_eq, parts_clean parts 0 hp (by rw [List.drop_zero]; exact e)]
theorem kind_pos (x : Str) : ¬ Str.strKind x < 1 := by
  unfold Str.strKind; split
  · decide
  · split <;> decide
theorem split_clean {x y : Str} (hy : y.cps.toList ≠ []) (hk : Str.strKind y = 1) {parts : List (List Nat)} (h : Clean y.cps.toList parts) (e : x.cps.toList = joinL y.cps.toList parts) : Txt.split x y = parts.map ofL := by
  have hx : ∀ p, parts = [p] → [x] = parts.map ofL := fun p q => by
    rw [q] at e ⊢
    show [x] = [ofL p]
    congr 1
    apply Str.ext'
    apply Array.toList_inj.mp
    exact e
  unfold Txt.split
  rw [hk, decide_eq_false (kind_pos x), Bool.or_false]
  match parts, h, e, hx with
  | [], h, _, _ => exact h.elim
  | [p], h, e, hx =>
    rw [occ_clean hy h e]
    split
    · exact hx p rfl
    · exact hx p rfl
  | p :: q :: r, h, e, _ =>
    have hlen : ¬ x.length < y.length := by
      have := congrArg List.length e
      have e2 : joinL y.cps.toList (p :: q :: r) = p ++ (y.cps.toList ++ joinL y.cps.toList (q :: r)) := rfl
      rw [e2, List.length_append, List.length_append] at this
      simp [Str.length] at this ⊢
      omega
    rw [decide_eq_false hlen, if_neg (by decide), if_neg (by rw [occ_clean hy h e]; simp [cutsOf]), between_clean hy h e]
theorem glued_ofL (z : List Nat) : ∀ (parts : List (List Nat)), (glued (ofL z) (parts.map ofL)).cps.toList = joinL z parts
  | [] => rfl
  | [p] => rfl
  | p :: q :: r => by
    have key : ∀ (l : List (List Nat)) (acc : Array Nat), (List.foldl (fun (acc : Array Nat) (p : Str) => acc ++ z.toArray ++ p.cps) acc (l.map ofL)).toList = acc.toList ++ l.flatMap (fun p => z ++ p) := by
      intro l
      induction l with
      | nil => intro acc; simp
      | cons a l ih => intro acc; rw [List.map_cons, List.foldl_cons, ih]; simp
    have key2 : ∀ (q : List Nat) (r : List (List Nat)), q ++ r.flatMap (fun p => z ++ p) = joinL z (q :: r) := by
      intro q r
      induction r generalizing q with
      | nil => simp [joinL]
      | cons a r ih => rw [List.flatMap_cons, joinL, ← ih a]; simp
    show (List.foldl (fun (acc : Array Nat) (p : Str) => acc ++ z.toArray ++ p.cps) p.toArray ((q :: r).map ofL)).toList = _
    rw [key, key2]
theorem replace_clean {x y : Str} (hy : y.cps.toList ≠ []) {parts : List (List Nat)} (h : Clean y.cps.toList parts) (e : x.cps.toList = joinL y.cps.toList parts) (z : List Nat) : (Txt.replace x y (ofL z)).cps.toList = joinL z parts := by
  have hyl : (y.length == 0) = false := by
    have : y.length ≠ 0 := fun q => hy (List.length_eq_zero_iff.mp (by simpa [Str.length] using q))
    simpa using this
  unfold Txt.replace
  rw [hyl, Bool.false_and, Bool.or_false, between_clean hy h e]
  match parts, h, e with
  | [], h, _ => exact h.elim
  | [p], h, e =>
    rw [occ_clean hy h e, if_pos (by rfl)]
    exact e
  | p :: q :: r, h, e =>
    rw [occ_clean hy h e, if_neg (by simp [cutsOf])]
    exact glued_ofL z _
end Mine

/-! StrM -/
namespace Mine
open PySem PySem.Builtin PySem.Builtin.Str PySem.StrLaws
set_option Elab.async false

/-- what _ellipsis_match does with the middle pieces -/
def emLoop (got : Str) (e : Int) : List Str → Int → Bool
  | [], _ => true
  | w :: ws, sp => if findTo got w sp e < 0 then false else emLoop got e ws (findTo got w sp e + w.length)
/-- a sign: some letters, no space, no dot -/
structure Sg (s : List Nat) : Prop where
  ne : s ≠ []
  sp : 32 ∉ s
  dot : 46 ∉ s
def tokL (s : List Nat) : List Nat := 32 :: (s ++ [32])
def encL (ss : List (List Nat)) : List Nat := ss.flatMap tokL
abbrev dots : List Nat := [46, 46, 46]
abbrev gap : List Nat := [32, 46, 46, 46, 32]

theorem prefix_sign {s t a b : List Nat} (hs : 32 ∉ s) (ht : 32 ∉ t) (h : s ++ 32 :: a <+: t ++ 32 :: b) : s = t := by
  induction s generalizing t with
  | nil =>
    cases t with
    | nil => rfl
    | cons c t =>
      obtain ⟨u, e⟩ := h
      simp at e
      exact absurd (e.1 ▸ List.mem_cons_self) ht
  | cons c s ih =>
    cases t with
    | nil =>
      obtain ⟨u, e⟩ := h
      simp at e
      exact absurd (e.1.symm ▸ List.mem_cons_self) hs
    | cons d t =>
      obtain ⟨u, e⟩ := h
      simp at e
      obtain ⟨rfl, e⟩ := e
      rw [ih (t := t) (fun q => hs (List.mem_cons_of_mem _ q)) (fun q => ht (List.mem_cons_of_mem _ q)) ⟨u, by simpa using e⟩]
theorem drop_past {α : Type} {a b : List α} {n : Nat} (h : a.length ≤ n) : (a ++ b).drop n = b.drop (n - a.length) := by
  rw [List.drop_append, List.drop_eq_nil_of_le h, List.nil_append]
theorem tok_len {s : List Nat} : (tokL s).length = s.length + 2 := by simp [tokL]
theorem encL_cons {s : List Nat} {ss : List (List Nat)} : encL (s :: ss) = tokL s ++ encL ss := rfl
theorem enc_head {ss : List (List Nat)} : encL ss = [] ∨ ∃ r, encL ss = 32 :: r := by
  cases ss with
  | nil => exact .inl rfl
  | cons s ss => exact .inr ⟨_, rfl⟩
theorem tok_at {s t : List Nat} {ts : List (List Nat)} (hs : Sg s) (ht : Sg t) {i : Nat} : tokL s <+: (tokL t ++ encL ts).drop i ↔ (i = 0 ∧ s = t) ∨ ((tokL t).length ≤ i ∧ tokL s <+: (encL ts).drop (i - (tokL t).length)) := by
  constructor
  · intro h
    by_cases h1 : (tokL t).length ≤ i
    · refine .inr ⟨h1, ?_⟩
      rw [drop_past h1] at h
      exact h
    · rw [tok_len] at h1
      cases i with
      | zero =>
        refine .inl ⟨rfl, ?_⟩
        obtain ⟨u, e⟩ := h
        have e' : s ++ 32 :: u = t ++ 32 :: encL ts := by simpa [tokL] using e
        exact prefix_sign hs.sp ht.sp ⟨[], by rw [List.append_nil]; exact e'⟩
      | succ i =>
        exfalso
        obtain ⟨u, e⟩ := h
        have e' : 32 :: (s ++ [32]) ++ u = (t ++ (32 :: encL ts)).drop i := by simpa [tokL] using e
        by_cases h2 : i < t.length
        · rw [List.drop_append_of_le_length (Nat.le_of_lt h2), List.drop_eq_getElem_cons h2] at e'
          have e2 := congrArg List.head? e'
          simp only [List.cons_append, List.head?_cons, Option.some.injEq] at e2
          exact ht.sp (e2 ▸ List.getElem_mem h2)
        · have : i = t.length := by omega
          subst this
          rw [List.drop_left] at e'
          simp at e'
          obtain ⟨c, s', rfl⟩ : ∃ c s', s = c :: s' := by cases s with | nil => exact absurd rfl hs.ne | cons c s' => exact ⟨c, s', rfl⟩
          rcases enc_head (ss := ts) with q | ⟨r, q⟩
          · rw [q] at e'; cases e'
          · rw [q] at e'
            simp at e'
            exact hs.sp (e'.1 ▸ List.mem_cons_self)
  · rintro (⟨rfl, rfl⟩ | ⟨h1, h2⟩)
    · exact List.prefix_append _ _
    · rw [drop_past h1]; exact h2

theorem tok_ne {s : List Nat} : tokL s ≠ [] := by simp [tokL]
/-- the middle pieces of a pattern for the signs ss -/
def midL (ss : List (List Nat)) : List Str := if ss = [] then [ofL []] else ss.map fun s => ofL (tokL s)

theorem find_eq {x y : Str} {lo : Nat} (hlo : lo ≤ x.length) : findTo x y lo x.length = (match occurrences x y lo x.length 1 with | k :: _ => (k : Int) | [] => -1) := by
  unfold findTo
  have h1 : fromIndex x.length (lo : Int) = lo := by unfold fromIndex; rw [if_neg (by omega)]; omega
  have h2 : min (fromIndex x.length (x.length : Int)) x.length = x.length := by unfold fromIndex; rw [if_neg (by omega)]; omega
  rw [h1, h2]
  all_goals (cases occurrences x y lo x.length 1 <;> rfl)
theorem find_none {x y : Str} {lo : Nat} (hlo : lo ≤ x.length) (h : ∀ i, lo ≤ i → ¬ At x y x.length i) : findTo x y lo x.length = -1 := by
  rw [find_eq hlo]
  rcases occ_head_from x y lo 1 (Nat.le_refl _) with ⟨e, _⟩ | ⟨i, r, _, h1, h2, _⟩
  · rw [e]
  · exact absurd h2 (h i h1)
theorem find_some {x y : Str} {lo k : Nat} (hlo : lo ≤ x.length) (h1 : lo ≤ k) (h2 : At x y x.length k) (h3 : ∀ i, lo ≤ i → i < k → ¬ At x y x.length i) : findTo x y lo x.length = k := by
  rw [find_eq hlo]
  rcases occ_head_from x y lo 1 (Nat.le_refl _) with ⟨_, h⟩ | ⟨i, r, e, g1, g2, g3⟩
  · exact absurd h2 (h k h1)
  · rw [e]
    have : i = k := by
      rcases Nat.lt_trichotomy i k with q | q | q
      · exact absurd g2 (h3 i g1 q)
      · exact q
      · exact absurd h2 (g3 k h1 q)
    rw [this]
/-- from two places alike, if nothing stands between -/
theorem find_skip {x y : Str} {lo hi : Nat} (hl : lo ≤ hi) (hh : hi ≤ x.length) (h : ∀ i, lo ≤ i → i < hi → ¬ At x y x.length i) : findTo x y lo x.length = findTo x y hi x.length := by
  rcases occ_head_from x y hi 1 (Nat.le_refl _) with ⟨_, h'⟩ | ⟨i, r, e, g1, g2, g3⟩
  · rw [find_none (Nat.le_trans hl hh) (fun i hi' z => by
      by_cases q : i < hi
      · exact h i hi' q z
      · exact h' i (by omega) z), find_none hh h']
  · rw [find_some hh g1 g2 g3, find_some (Nat.le_trans hl hh) (Nat.le_trans hl g1) g2 fun j j1 j2 z => by
      by_cases q : j < hi
      · exact h j j1 q z
      · exact g3 j (by omega) j2 z]
theorem at_pre {pre l : List Nat} {y : Str} {i : Nat} (hi : pre.length ≤ i) (hil : i ≤ (pre ++ l).length) : At (ofL (pre ++ l)) y (ofL (pre ++ l)).length i ↔ y.cps.toList <+: l.drop (i - pre.length) := by
  rw [at_iff]
  have : (ofL (pre ++ l)).cps.toList = pre ++ l := rfl
  rw [this, drop_past hi]
  constructor
  · exact fun h => h.1
  · exact fun h => ⟨h, by simpa [Str.length] using hil⟩
theorem at_le {x y : Str} {i : Nat} (h : At x y x.length i) : i ≤ x.length := (at_iff.mp h).2

theorem em_last (x : Str) {lo : Nat} (hlo : lo ≤ x.length) : emLoop x x.length [ofL []] lo = true := by
  have : findTo x (ofL []) lo x.length = lo := find_some hlo (Nat.le_refl _) (at_iff.mpr ⟨List.nil_prefix, hlo⟩) fun i h1 h2 => by omega
  unfold emLoop
  rw [this, if_neg (by omega)]
  rfl
theorem em_enc : ∀ (ts ss : List (List Nat)) (pre : List Nat), (∀ s ∈ ss, Sg s) → (∀ t ∈ ts, Sg t) →
    emLoop (ofL (pre ++ encL ts)) (ofL (pre ++ encL ts)).length ((ss.map fun s => ofL (tokL s)) ++ [ofL []]) pre.length = ss.isSublist ts := by
  intro ts
  induction ts with
  | nil =>
    intro ss pre hs ht
    have hl : pre.length ≤ (ofL (pre ++ encL [])).length := by simp [Str.length]
    cases ss with
    | nil => exact em_last _ hl
    | cons s ss =>
      show emLoop _ _ (ofL (tokL s) :: _) _ = false
      unfold emLoop
      rw [find_none hl fun i h1 h2 => ?_]
      · rfl
      · have h3 := (at_pre h1 (by have := at_le h2; simpa [Str.length] using this)).mp h2
        obtain ⟨u, e⟩ := h3
        simp [encL, tokL] at e
  | cons t ts ih =>
    intro ss pre hs ht
    have hl : pre.length ≤ (ofL (pre ++ encL (t :: ts))).length := by simp [Str.length]
    have e2 : pre ++ encL (t :: ts) = (pre ++ tokL t) ++ encL ts := by rw [encL_cons, List.append_assoc]
    have hpl : (pre ++ tokL t).length = pre.length + (tokL t).length := List.length_append
    have htl : (tokL t).length = t.length + 2 := tok_len
    have hl2 : (pre ++ tokL t).length ≤ (ofL (pre ++ encL (t :: ts))).length := by rw [e2]; simp [Str.length]
    cases ss with
    | nil => exact em_last _ hl
    | cons s ss =>
      have hsg := hs s List.mem_cons_self
      have htg := ht t List.mem_cons_self
      have hAt : ∀ i, pre.length ≤ i → (At (ofL (pre ++ encL (t :: ts))) (ofL (tokL s)) (ofL (pre ++ encL (t :: ts))).length i → (i - pre.length = 0 ∧ s = t) ∨ (tokL t).length ≤ i - pre.length) := fun i h1 h2 => by
        have h3 := (at_pre h1 (by have := at_le h2; simpa [Str.length] using this)).mp h2
        rcases (tok_at hsg htg).mp h3 with q | q
        · exact .inl q
        · exact .inr q.1
      by_cases hst : s = t
      · subst hst
        have hf : findTo (ofL (pre ++ encL (s :: ts))) (ofL (tokL s)) pre.length (ofL (pre ++ encL (s :: ts))).length = pre.length :=
          find_some hl (Nat.le_refl _) ((at_pre (Nat.le_refl _) (by simp)).mpr (by rw [Nat.sub_self, List.drop_zero]; exact List.prefix_append _ _)) fun i h1 h2 => by omega
        show emLoop _ _ (ofL (tokL s) :: _) _ = (s :: ss).isSublist (s :: ts)
        unfold emLoop
        rw [hf, if_neg (by omega)]
        have := ih ss (pre ++ tokL s) (fun a ha => hs a (List.mem_cons_of_mem _ ha)) (fun a ha => ht a (List.mem_cons_of_mem _ ha))
        rw [← e2, hpl] at this
        have e3 : ((pre.length : Nat) : Int) + ((ofL (tokL s)).length : Nat) = ((pre.length + (tokL s).length : Nat) : Int) := by simp [Str.length]
        rw [e3]
        exact this.trans (by simp [List.isSublist])
      · have hsk := find_skip (x := ofL (pre ++ encL (t :: ts))) (y := ofL (tokL s)) (lo := pre.length) (hi := (pre ++ tokL t).length) (by omega) hl2 fun i h1 h2 z => by
          rcases hAt i h1 z with q | q
          · exact hst q.2
          · omega
        have := ih (s :: ss) (pre ++ tokL t) hs (fun a ha => ht a (List.mem_cons_of_mem _ ha))
        rw [← e2] at this
        have e4 : (s :: ss).isSublist (t :: ts) = (s :: ss).isSublist ts := by
          simp [List.isSublist, hst]
        rw [e4, ← this]
        show emLoop _ _ (ofL (tokL s) :: _) _ = emLoop _ _ (ofL (tokL s) :: _) _
        unfold emLoop
        rw [hsk]
theorem em_first (x : Str) (ws : List Str) : emLoop x x.length (ofL [] :: ws) 0 = emLoop x x.length ws 0 := by
  have : findTo x (ofL []) (0 : Nat) x.length = (0 : Nat) := find_some (Nat.zero_le _) (Nat.le_refl _) (at_iff.mpr ⟨List.nil_prefix, Nat.zero_le _⟩) fun i h1 h2 => by omega
  conv => lhs; unfold emLoop
  have this' : findTo x (ofL []) 0 x.length = 0 := this
  rw [this', if_neg (by decide)]
  rfl
theorem em_sub {ss ts : List (List Nat)} (hs : ∀ s ∈ ss, Sg s) (ht : ∀ t ∈ ts, Sg t) : emLoop (ofL (encL ts)) (ofL (encL ts)).length (ofL [] :: (midL ss ++ [ofL []])) 0 = ss.isSublist ts := by
  rw [em_first]
  unfold midL
  split
  · rename_i h
    subst h
    rw [show [ofL []] ++ [ofL []] = ofL [] :: [ofL []] from rfl, em_first]
    have := em_last (ofL (encL ts)) (Nat.zero_le _)
    exact this.trans (by cases ts <;> rfl)
  · have := em_enc ts ss [] hs ht
    simpa using this
end Mine

/-! StrN -/
namespace Mine
open PySem PySem.Builtin PySem.Builtin.Str PySem.StrLaws
set_option Elab.async false

/-- the pieces of a text of signs between double spaces, h ahead -/
def prt : List Nat → List (List Nat) → List (List Nat)
  | h, [] => [h]
  | h, [s] => [h ++ (s ++ [32])]
  | h, s :: t :: r => (h ++ s) :: prt [] (t :: r)
theorem prt_join (h : List Nat) : ∀ (s : List Nat) (r : List (List Nat)), joinL [32, 32] (prt h (s :: r)) = h ++ (s ++ 32 :: encL r)
  | s, [] => by simp [prt, joinL, encL]
  | s, t :: r => by
    have ih := prt_join [] t r
    have hne : ∃ a b, prt [] (t :: r) = a :: b := by cases r with | nil => exact ⟨_, _, rfl⟩ | cons c d => exact ⟨_, _, rfl⟩
    obtain ⟨a, b, e⟩ := hne
    show joinL [32, 32] ((h ++ s) :: prt [] (t :: r)) = _
    rw [e] at ih ⊢
    rw [joinL, ih]
    simp [encL, tokL]
theorem no_double {l : List Nat} {j : Nat} {c : Nat} (h : [c, c] <+: l.drop j) : l[j]? = some c ∧ l[j + 1]? = some c := by
  obtain ⟨u, e⟩ := h
  have h0 : (l.drop j)[0]? = some c := by rw [← e]; rfl
  have h1 : (l.drop j)[1]? = some c := by rw [← e]; rfl
  rw [List.getElem?_drop] at h0 h1
  exact ⟨by simpa using h0, by simpa using h1⟩
theorem prt_clean : ∀ (s : List Nat) (r : List (List Nat)) (h : List Nat), (h = [] ∨ h = [32]) → (∀ t ∈ s :: r, Sg t) → Clean [32, 32] (prt h (s :: r))
  | s, [], h, hh, hs => by
    intro j hj
    obtain ⟨h1, h2⟩ := no_double hj
    have hsg := hs s List.mem_cons_self
    rcases hh with rfl | rfl
    · rw [List.nil_append] at h1 h2
      have hj2 : j < s.length := by
        have := (List.getElem?_eq_some_iff.mp h2).1
        rw [List.length_append] at this
        simp at this; omega
      rw [List.getElem?_append_left hj2] at h1
      exact hsg.sp (List.mem_of_getElem? h1)
    · cases j with
      | zero =>
        have h2' : (s ++ [32])[0]? = some 32 := by simpa using h2
        have : 0 < s.length := List.length_pos_iff.mpr hsg.ne
        rw [List.getElem?_append_left this] at h2'
        exact hsg.sp (List.mem_of_getElem? h2')
      | succ j =>
        have h1' : (s ++ [32])[j]? = some 32 := by simpa using h1
        have h2' : (s ++ [32])[j + 1]? = some 32 := by simpa using h2
        have hj2 : j < s.length := by
          have := (List.getElem?_eq_some_iff.mp h2').1
          rw [List.length_append] at this
          simp at this; omega
        rw [List.getElem?_append_left hj2] at h1'
        exact hsg.sp (List.mem_of_getElem? h1')
  | s, t :: r, h, hh, hs => by
    have ih := prt_clean t r [] (.inl rfl) (fun a ha => hs a (List.mem_cons_of_mem _ ha))
    have hne : ∃ a b, prt [] (t :: r) = a :: b := by cases r with | nil => exact ⟨_, _, rfl⟩ | cons c d => exact ⟨_, _, rfl⟩
    obtain ⟨a, b, e⟩ := hne
    show Clean [32, 32] ((h ++ s) :: prt [] (t :: r))
    rw [e] at ih ⊢
    refine ⟨fun j hj hp => ?_, ih⟩
    obtain ⟨h1, h2⟩ := no_double hp
    have hsg := hs s List.mem_cons_self
    rw [List.getElem?_append_left hj] at h1
    rcases hh with rfl | rfl
    · rw [List.nil_append] at h1
      exact hsg.sp (List.mem_of_getElem? h1)
    · cases j with
      | zero =>
        have : 0 < s.length := List.length_pos_iff.mpr hsg.ne
        rw [List.getElem?_append_left (by simp; omega)] at h2
        have h2' : s[0]? = some 32 := by simpa using h2
        exact hsg.sp (List.mem_of_getElem? h2')
      | succ j =>
        have h1' : s[j]? = some 32 := by simpa using h1
        exact hsg.sp (List.mem_of_getElem? h1')
theorem join_pre (y a p : List Nat) (r : List (List Nat)) : a ++ joinL y (p :: r) = joinL y ((a ++ p) :: r) := by
  cases r with
  | nil => rfl
  | cons q r => simp [joinL]
theorem gap_join : ∀ (s : List Nat) (r : List (List Nat)) (h : List Nat), joinL gap (prt h (s :: r)) ++ dots = joinL dots ((h ++ (s ++ [32])) :: (r.map tokL ++ [[]]))
  | s, [], h => by simp [prt, joinL]
  | s, t :: r, h => by
    have ih := gap_join t r []
    have hne : ∃ a b, prt [] (t :: r) = a :: b := by cases r with | nil => exact ⟨_, _, rfl⟩ | cons c d => exact ⟨_, _, rfl⟩
    obtain ⟨a, b, e⟩ := hne
    show joinL gap ((h ++ s) :: prt [] (t :: r)) ++ dots = joinL dots ((h ++ (s ++ [32])) :: (tokL t :: (r.map tokL ++ [[]])))
    rw [e] at ih ⊢
    rw [joinL, joinL]
    have := join_pre dots [32] ([] ++ (t ++ [32])) (r.map tokL ++ [[]])
    rw [show [32] ++ ([] ++ (t ++ [32])) = tokL t from rfl] at this
    rw [← this, ← ih]
    simp
/-- the pattern for the signs ss -/
def wantL (ss : List (List Nat)) : List Nat := joinL dots ([] :: ((if ss = [] then [[]] else ss.map tokL) ++ [[]]))
theorem midL_eq (ss : List (List Nat)) : (if ss = [] then [[]] else ss.map tokL).map ofL = midL ss := by
  unfold midL; split <;> simp
theorem clean_of {y : List Nat} {c : Nat} {t : List Nat} (hy : y = c :: t) : ∀ (parts : List (List Nat)), parts ≠ [] → (∀ p ∈ parts, c ∉ p) → Clean y parts
  | [], h, _ => absurd rfl h
  | [p], _, h => by
    intro j hp
    obtain ⟨u, e⟩ := hp
    rw [hy] at e
    have : c ∈ p.drop j := by rw [← e]; exact List.mem_cons_self
    exact h p List.mem_cons_self (List.mem_of_mem_drop this)
  | p :: q :: r, _, h => by
    refine ⟨fun j hj hp => ?_, clean_of hy (q :: r) (by simp) fun a ha => h a (List.mem_cons_of_mem _ ha)⟩
    obtain ⟨u, e⟩ := hp
    rw [hy] at e
    have h0 : ((p ++ ((c :: t) ++ joinL (c :: t) (q :: r))).drop j)[0]? = some c := by rw [← e]; rfl
    rw [List.getElem?_drop, Nat.add_zero, List.getElem?_append_left hj] at h0
    exact h p List.mem_cons_self (List.mem_of_getElem? h0)
theorem dots_cps : Str.cps (Str.ofString "...") = dots.toArray := by decide +kernel
theorem want_split {ss : List (List Nat)} (hs : ∀ s ∈ ss, Sg s) {x : Str} (hx : x.cps.toList = wantL ss) : Txt.split x (Str.ofString "...") = ofL [] :: (midL ss ++ [ofL []]) := by
  have hd : (Str.ofString "...").cps.toList = dots := by rw [dots_cps]
  have hcl : Clean (Str.ofString "...").cps.toList ([] :: ((if ss = [] then [[]] else ss.map tokL) ++ [[]])) := by
    rw [hd]
    refine clean_of (c := 46) (t := [46, 46]) rfl _ (by simp) fun p hp => ?_
    rcases List.mem_cons.mp hp with q | q
    · rw [q]; simp
    · rcases List.mem_append.mp q with q | q
      · split at q
        · rw [List.mem_singleton.mp q]; simp
        · obtain ⟨s, h, rfl⟩ := List.mem_map.mp q
          have := (hs s h).dot
          simp [tokL, this]
      · rw [List.mem_singleton.mp q]; simp
  have := split_clean (x := x) (y := Str.ofString "...") (by rw [hd]; decide) (by decide +kernel) hcl (by rw [hx, hd]; rfl)
  rw [this, List.map_cons, List.map_append, midL_eq]
  rfl
theorem want_contains {ss : List (List Nat)} {x : Str} (hx : x.cps.toList = wantL ss) : Txt.contains x (Str.ofString "...") = true := by
  unfold Txt.contains
  rw [found_iff]
  have hd : (Str.ofString "...").cps.toList = dots := by rw [dots_cps]
  have : At x (Str.ofString "...") x.length 0 := by
    refine at_iff.mpr ⟨?_, Nat.zero_le _⟩
    rw [List.drop_zero, hx, hd]
    unfold wantL
    cases e : ((if ss = [] then [[]] else ss.map tokL) ++ [[]]) with
    | nil => simp at e
    | cons a b => exact List.prefix_append _ _
  exact ⟨0, this⟩
theorem want_replace {ss : List (List Nat)} (hs : ∀ s ∈ ss, Sg s) {x : Str} (hx : x.cps.toList = encL ss) :
    ((Str.ofString "..." ++ Txt.replace x (Str.ofString "  ") (Str.ofString " ... ")) ++ Str.ofString "...").cps.toList = wantL ss := by
  have hd : (Str.ofString "...").cps.toList = dots := by rw [dots_cps]
  have h2 : (Str.ofString "  ").cps = #[32, 32] := by decide +kernel
  have h3 : Str.ofString " ... " = ofL gap := by decide +kernel
  have happ : ∀ a b : Str, (a ++ b).cps.toList = a.cps.toList ++ b.cps.toList := fun a b => by
    show (a.cps ++ b.cps).toList = _; simp
  rw [happ, happ, hd, h3]
  cases ss with
  | nil =>
    have := replace_clean (x := x) (y := Str.ofString "  ") (parts := [[]]) (by rw [h2]; decide) (by rw [h2]; intro j; simp) (by rw [hx, h2]; rfl) gap
    rw [this]
    rfl
  | cons s r =>
    have := replace_clean (x := x) (y := Str.ofString "  ") (parts := prt [32] (s :: r)) (by rw [h2]; decide) (by rw [h2]; exact prt_clean s r [32] (.inr rfl) hs) (by
      rw [hx, h2]
      show _ = joinL [32, 32] _
      rw [prt_join]
      simp [encL, tokL]) gap
    rw [this, List.append_assoc, gap_join]
    rfl
theorem encL_append (a b : List (List Nat)) : encL (a ++ b) = encL a ++ encL b := List.flatMap_append
theorem encL_len_le (ss : List (List Nat)) : ∀ s ∈ ss, (tokL s).length ≤ (encL ss).length := fun s hs => by
  induction ss with
  | nil => cases hs
  | cons t ss ih =>
    rw [encL_cons, List.length_append]
    rcases List.mem_cons.mp hs with q | q
    · rw [q]; omega
    · have := ih q; omega
theorem join_dots_len : ∀ (l : List (List Nat)), (joinL dots (l ++ [[]])).length = (l.map fun p => p.length + 3).sum
  | [] => rfl
  | [p] => by simp [joinL]
  | p :: q :: r => by
    have ih := join_dots_len (q :: r)
    show (joinL dots (p :: q :: (r ++ [[]]))).length = _
    rw [joinL, List.length_append, List.length_append]
    have ih' : (joinL dots (q :: (r ++ [[]]))).length = _ := ih
    rw [ih']
    simp
    omega
theorem wantL_len (ss : List (List Nat)) : (wantL ss).length ≤ 6 + 4 * (encL ss).length := by
  unfold wantL
  have h := join_dots_len ([] :: (if ss = [] then [[]] else ss.map tokL))
  rw [List.cons_append] at h
  rw [h]
  split
  · simp
  · rename_i hne
    clear h hne
    have : ∀ l : List (List Nat), ((l.map tokL).map fun p => p.length + 3).sum ≤ 4 * (encL l).length := by
      intro l
      induction l with
      | nil => simp
      | cons a l ih =>
        rw [encL_cons, List.length_append, List.map_cons, List.map_cons, List.sum_cons]
        have := tok_len (s := a)
        omega
    have := this ss
    simp only [List.map_cons, List.sum_cons, List.length_nil]
    omega
theorem midL_len {ss : List (List Nat)} : ∀ x ∈ midL ss, Str.length x ≤ (encL ss).length := fun x hx => by
  unfold midL at hx
  split at hx
  · rw [List.mem_singleton.mp hx]; simp [Str.length]
  · obtain ⟨s, hs, rfl⟩ := List.mem_map.mp hx
    have := encL_len_le ss s hs
    simpa [Str.length] using this
end Mine

/-! F2a -/
namespace Mine
open PySem PySem.W PySem.Calls PyProof.Rows PySem.Challenge
set_option Elab.async false
set_option maxRecDepth 100000
def parts (p : Program) (i : Nat) : Str × Arguments × List Stmt × Scope := match p.main.body[i]? with
  | some (.FunctionDef n a b _ _ _ s _ _ _) => (n, a, b, s)
  | _ => default
def fdOf (q : Str) (x : Str × Arguments × List Stmt × Scope) (dflt mod code : Value) : FuncData :=
  { name := x.1, qualname := q, params := x.2.1, body := .stmts x.2.2.1, scope := x.2.2.2, globals := 3, closure := [], defaults := dflt, kwdefaults := .none, pyModule := mod, code := code }

theorem le_size {n : Nat} (h : n ≤ 1000000) : n ≤ sizeLine := Nat.le_trans h (by decide)
theorem em_ok {prog : Program} {w : World} {mg mb : Str → Option Value} {K : List (Addr × Obj)} {f : Addr} {mod code : Value} {t : Tok} (hd : IsDef K f (fdOf "_ellipsis_match" (parts pw_re0170_02 10) .none mod code)) (hg : mg "ELLIPSIS_MARKER" = some (.str "..." t))
    (hlen : mg "len" = none) {want got : Str} {mid : List Str} (hc : Txt.contains want "..." = true) (hws : Txt.split want "..." = ("" : Str) :: (mid ++ [("" : Str)])) (hw : want.length ≤ 1000000) (hgot : got.length ≤ 1000000) (hmz : ∀ x ∈ mid, Str.length x ≤ 1000000) :
    FnOk prog w mg mb K f [.str want, .str got] [] (.bool (emLoop got got.length (("" : Str) :: (mid ++ [("" : Str)])) 0)) 1 := by
  have hsz2 : (Builtin.Str.partsBetween want (Builtin.Str.occurrences want "..." 0 want.length (want.length + 1)) (Str.length "...")).length ≤ sizeLine := by
    rw [length_partsBetween]
    have := StrLaws.occ_length_le want "..." 0 want.length (want.length + 1)
    have : sizeLine = 2 ^ 24 := rfl
    omega
  have hmid : (("" : Str) :: (mid ++ [("" : Str)]) : List Str).length ≤ sizeLine := by
    have h1 : (Txt.split want "...").length ≤ want.length + 2 := by
      unfold Txt.split
      split
      · simp
      · split
        · simp
        · rw [length_partsBetween]
          have := StrLaws.occ_length_le want "..." 0 want.length (want.length + 1)
          omega
    rw [hws] at h1
    have : sizeLine = 2 ^ 24 := rfl
    omega
  have hml : (((("" : Str) :: (mid ++ [("" : Str)]) : List Str)).map PV.str).length = mid.length + 2 := by simp
  generalize hwl : (((("" : Str) :: (mid ++ [("" : Str)]) : List Str)).map PV.str) = wl at *
  have hwlz : wl.length ≤ sizeLine := by rw [← hwl, List.length_map]; exact hmid
  have hsplit : ∀ C V M, Bn C V M "str.split" [.str want, .str "..."] (.list wl) := fun C V M => by
    have := Bn.split (C := C) (V := V) (M := M) (x := want) (y := "...") rfl (le_size hw) hsz2
    rwa [hws, hwl] at this
  refine FnOk.of_body (names := ["want", "got"]) hd rfl ?_ (by decide) rfl ⟨[], fun _ => rfl, List.nodup_nil⟩ ?_ ?_
  · intro vs hv
    match vs, hv with
    | [a, b], _ => rfl
  · intro L x hx
    simp only [List.mem_cons, List.not_mem_nil, or_false] at hx
    rcases hx with rfl | rfl <;> exact .inl rfl
  intro A L
  -- if ELLIPSIS_MARKER not in want
  refine EX.cons (EX1.ite (b := !Txt.contains want "...") (ET.cmp (EV.gstr hg rfl) (EV.local rfl rfl) Bi.notIn_str rfl) (fun h => by rw [hc] at h; cases h) fun _ => EX.nil ?_)
  -- ws = want.split(..)
  refine EX.cons (EX1.assign (.inl rfl) (EV.meth (EV.local rfl rfl) rfl (EVs.cons (EV.gstr hg rfl) EVs.nil) mth_split Ty.str (hsplit _ _ _) rfl rfl (by decide)) rfl ?_)
  -- assert
  refine EX.cons (EX1.assert (ET.of_eq (ET.cmp (EV.callB (EV.builtin rfl hlen bootS_len (by decide)) rfl (EVs.cons (EV.local rfl rfl) EVs.nil) (Bn.len_list hwlz)) EV.cint Bi.ge_int rfl) (by rw [hml]; exact decide_eq_true (by omega))) ?_)
  -- startpos, endpos = (0, len(got))
  refine EX.cons (EX1.assignSwap (.inl rfl) (.inl rfl) (EV.tuple rfl (EVs.cons EV.cint (EVs.cons (EV.callB (EV.builtin rfl hlen bootS_len (by decide)) rfl (EVs.cons (EV.local rfl rfl) EVs.nil) (Bn.len_str (le_size hgot))) EVs.nil)) (by decide)) rfl rfl ?_)
  -- w = ws[0]
  have h0 : wl[(0 : Int).toNat]? = some (.str "") := by rw [← hwl]; rfl
  refine EX.cons (EX1.assign (.inl rfl) (EV.sub (EV.local rfl rfl) EV.cint (Ix.list (by decide) h0 (by decide))) rfl ?_)
  refine EX.cons (EX1.ite (b := false) (ET.of_eq (ET.val (EV.local rfl rfl) (Tr.str (x := "") (by decide)) rfl) rfl) (fun h => nomatch h) fun _ => EX.nil ?_)
  -- w = ws[-1]
  have h1 : wl[((-1 : Int) + wl.length).toNat]? = some (.str "") := by
    rw [hml, ← hwl]
    have : ((-1 : Int) + ((mid.length + 2 : Nat) : Int)).toNat = mid.length + 1 := by omega
    rw [this]
    simp
  refine EX.cons (EX1.assign (.inl rfl) (EV.sub (EV.local rfl rfl) (EV.neg EV.cint) (Ix.listNeg (by decide) (by omega) (by decide) h1)) rfl ?_)
  refine EX.cons (EX1.ite (b := false) (ET.of_eq (ET.val (EV.local rfl rfl) (Tr.str (x := "") (by decide)) rfl) rfl) (fun h => nomatch h) fun _ => EX.nil ?_)
  -- if startpos > endpos
  refine EX.cons (EX1.ite (b := false) (ET.of_eq (ET.cmp (EV.local rfl rfl) (EV.local rfl rfl) Bi.gt_int rfl) (decide_eq_false (by omega))) (fun h => nomatch h) fun _ => EX.nil ?_)
  -- for w in ws
  generalize hall : (("" : Str) :: (mid ++ [("" : Str)])) = all at *
  refine EX.cons (EX1.for (fun done V' M' => M' = [] ∧ ∃ (sp : Int) (dn rest : List Str), all = dn ++ rest ∧ done = dn.map .str ∧ vat V' "startpos" = some (.int sp) ∧ vat V' "endpos" = some (.int got.length) ∧ vat V' "got" = some (.str got) ∧
      emLoop got got.length rest sp = emLoop got got.length all 0) rfl (It.list (EV.local rfl rfl)) ⟨rfl, 0, [], all, rfl, rfl, rfl, rfl, rfl, rfl⟩ ?_ ?_ (fun _ => rfl))
  · rintro done p rest V' M' hit ⟨rfl, sp, dn, rs, h1, rfl, h3, h4, h5, h6⟩
    cases rs with
    | nil =>
      have := congrArg List.length hit
      rw [← hwl, h1] at this
      simp at this
    | cons x xs =>
      have hp : p = .str x := by
        rw [← hwl, h1, List.map_append, List.map_cons] at hit
        exact ((List.append_cancel_left hit) |> List.cons.inj).1.symm
      subst hp
      refine EX.cons (EX1.assign (.inl rfl) (EV.meth (EV.local rfl (lk h5)) rfl (EVs.cons (EV.local rfl rfl) (EVs.cons (EV.local rfl (lk h3)) (EVs.cons (EV.local rfl (lk h4)) EVs.nil))) mth_find Ty.str Bn.find4 rfl rfl (by decide)) rfl ?_)
      refine EX.cons (EX1.ite (ET.cmp (EV.local rfl rfl) EV.cint Bi.lt_int rfl) (fun hb => ?_) fun hb => EX.nil ?_)
      · refine EX.cons (EX1.ret EV.cbool (.inl ?_))
        rw [← h6]
        unfold emLoop
        rw [if_pos (of_decide_eq_true hb)]
      · refine EX.cons (EX1.aug rfl rfl (EV.callB (EV.builtin rfl hlen bootS_len (by decide)) rfl (EVs.cons (EV.local rfl rfl) EVs.nil) (Bn.len_str ?_)) Bi.iadd_int (EX.nil ⟨rfl, _, dn ++ [x], xs, ?_, ?_, rfl, lk (lk (lk h4)), lk (lk (lk h5)), ?_⟩))
        · refine le_size ?_
          have hx : x ∈ all := by rw [h1]; simp
          rw [← hall] at hx
          rcases List.mem_cons.mp hx with q | q
          · rw [q]; decide
          · rcases List.mem_append.mp q with q | q
            · exact hmz x q
            · rw [List.mem_singleton.mp q]; decide
        · rw [h1]; simp
        · simp
        · rw [← h6]
          conv => rhs; unfold emLoop
          rw [if_neg (of_decide_eq_false hb)]
  · rintro V' M' ⟨rfl, sp, dn, rest, h1, h2, h3, h4, h5, h6⟩
    have hr : rest = [] := by
      have := congrArg List.length h2
      rw [← hwl, List.length_map, List.length_map, h1, List.length_append] at this
      exact List.length_eq_zero_iff.mp (by omega)
    subst hr
    refine EX.cons (EX1.ret EV.cbool (.inl ?_))
    rw [← h6]
    rfl

/-- the same, told by signs -/
theorem em_ss {prog : Program} {w : World} {mg mb : Str → Option Value} {K : List (Addr × Obj)} {f : Addr} {mod code : Value} {t : Tok} (hd : IsDef K f (fdOf "_ellipsis_match" (parts pw_re0170_02 10) .none mod code)) (hg : mg "ELLIPSIS_MARKER" = some (.str "..." t))
    (hlen : mg "len" = none) {want : Str} {ss ts : List (List Nat)} (hss : ∀ s ∈ ss, Sg s) (hts : ∀ s ∈ ts, Sg s) (hw : want.cps.toList = wantL ss) (h1 : (encL ss).length ≤ 100000) (h2 : (encL ts).length ≤ 100000) :
    FnOk prog w mg mb K f [.str want, .str (ofL (encL ts))] [] (.bool (ss.isSublist ts)) 1 := by
  have hwl : want.length = (wantL ss).length := by rw [← hw]; simp [Str.length]
  have := em_ok (prog := prog) (w := w) (mg := mg) (mb := mb) (K := K) (f := f) (mod := mod) (code := code) (t := t) hd hg hlen (want := want) (got := ofL (encL ts)) (mid := midL ss) (want_contains hw) (want_split hss hw)
    (by rw [hwl]; have := wantL_len ss; omega) (by simp [Str.length]; omega) (fun x hx => by have := midL_len x hx; omega)
  rwa [show (("" : Str) :: (midL ss ++ [("" : Str)])) = ofL [] :: (midL ss ++ [ofL []]) from rfl, em_sub hss hts] at this
end Mine

/-! F2c -/
namespace Mine
open PySem PySem.W PySem.Calls PyProof.Rows PySem.Challenge
set_option Elab.async false
set_option maxRecDepth 100000

def cut (x : Str) (a n : Nat) : Str := Txt.slice x (some (a : Int)) (some ((a : Int) + (n : Int)))
def szFrom (D : List (Str × PV)) (x : Str) (p : Nat) : Nat → Nat
  | 0 => 0
  | n + 1 => if (decide (0 < n) && !(D.lookup (cut x p (n + 1))).isSome) = true then szFrom D x p n else n + 1
theorem szFrom_pos {D : List (Str × PV)} {x : Str} {p : Nat} : ∀ n, 1 ≤ n → 1 ≤ szFrom D x p n
  | 0, h => absurd h (by decide)
  | n + 1, _ => by
    unfold szFrom
    split
    · rename_i h
      rw [Bool.and_eq_true, decide_eq_true_eq] at h
      exact szFrom_pos n h.1
    · omega
def piecesFrom (D : List (Str × PV)) (x : Str) : Nat → Nat → List Str
  | 0, _ => []
  | n + 1, p => if p < x.length then cut x p (szFrom D x p 3) :: piecesFrom D x n (p + szFrom D x p 3) else []
theorem pieces_fuel {D : List (Str × PV)} {x : Str} : ∀ (n m p : Nat), x.length - p ≤ n → x.length - p ≤ m → piecesFrom D x n p = piecesFrom D x m p
  | 0, 0, _, _, _ => rfl
  | 0, m + 1, p, h, _ => by unfold piecesFrom; rw [if_neg (by omega)]
  | n + 1, 0, p, _, h => by unfold piecesFrom; rw [if_neg (by omega)]
  | n + 1, m + 1, p, h1, h2 => by
    unfold piecesFrom
    split
    · have := szFrom_pos (D := D) (x := x) (p := p) 3 (by decide)
      rw [pieces_fuel n m (p + szFrom D x p 3) (by omega) (by omega)]
    · rfl
theorem pieces_len {D : List (Str × PV)} {x : Str} : ∀ (n p : Nat), (piecesFrom D x n p).length ≤ n
  | 0, _ => Nat.le_refl _
  | n + 1, p => by
    unfold piecesFrom
    split
    · have := pieces_len (D := D) (x := x) n (p + szFrom D x p 3); simp; omega
    · simp
theorem pieces_ok {prog : Program} {w : World} {mg mb : Str → Option Value} {K : List (Addr × Obj)} {f ae : Addr} {mod code : Value} {D : List (Str × PV)} (hd : IsDef K f (fdOf "_law_pieces" (parts pw_re0170_02 66) .none mod code))
    (hge : mg "EXACT_TOKEN_TYPES" = some (.ref ae)) (hD : GDict w.params K ae D) (hlen : mg "len" = none) {text : Str} (ht : text.length ≤ 100000) :
    FnOk prog w mg mb K f [.str text] [] (.list ((piecesFrom D text text.length 0).map .str)) 1 := by
  have hsl : text.length ≤ sizeLine := le_size (by omega)
  refine FnOk.of_body (names := ["text"]) hd rfl ?_ (by decide) rfl ⟨[], fun _ => rfl, List.nodup_nil⟩ ?_ ?_
  · intro vs hv
    match vs, hv with
    | [a], _ => rfl
  · intro L x hx
    simp only [List.mem_cons, List.not_mem_nil, or_false] at hx
    rcases hx with rfl; exact .inl rfl
  intro A L
  refine EX.cons (EX1.newList (.inl rfl) fun a => ?_)
  refine EX.cons (EX1.assign (.inl rfl) EV.cint rfl ?_)
  refine EX.cons (EX1.while (fun n V' M' => ∃ (place : Nat) (done : List Str), M' = [(a, .list (done.map .str))] ∧ vat V' "pieces" = some (.at a) ∧ vat V' "place" = some (.int place) ∧ vat V' "text" = some (.str text) ∧ n = text.length - place ∧ done.length ≤ place ∧
    done ++ piecesFrom D text text.length place = piecesFrom D text text.length 0) text.length ⟨0, [], rfl, rfl, rfl, rfl, rfl, Nat.le_refl _, rfl⟩ ?_)
  rintro n V' M' ⟨place, done, rfl, h1, h2, h3, rfl, h4, h5⟩
  refine ⟨decide ((place : Int) < text.length), ?_, fun hb => ?_, fun hb => ?_⟩
  · exact ET.cmp (EV.local rfl h2) (EV.callB (EV.builtin rfl hlen bootS_len (by decide)) rfl (EVs.cons (EV.local rfl h3) EVs.nil) (Bn.len_str hsl)) Bi.lt_int rfl
  · have hpl : place < text.length := by have := of_decide_eq_true hb; omega
    refine EX.cons (EX1.assign (.inl rfl) EV.cint rfl ?_)
    refine EX.cons (EX1.while (fun n V'' M'' => M'' = [(a, .list (done.map .str))] ∧ vat V'' "pieces" = some (.at a) ∧ vat V'' "place" = some (.int place) ∧ vat V'' "text" = some (.str text) ∧ vat V'' "size" = some (.int n) ∧ 1 ≤ n ∧ szFrom D text place n = szFrom D text place 3) 3
      ⟨rfl, lk h1, lk h2, lk h3, rfl, by decide, rfl⟩ ?_)
    rintro n V'' M'' ⟨rfl, g1, g2, g3, g4, g5, g6⟩
    have hsz : (decide ((n : Int) > 1) && ((!(D.lookup (cut text place n)).isSome) && true)) = (decide (0 < n - 1) && !(D.lookup (cut text place (n - 1 + 1))).isSome) := by
      rw [Bool.and_true, show n - 1 + 1 = n by omega]
      congr 1
      exact decide_eq_decide.mpr (by omega)
    have hst : szFrom D text place n = if (decide (0 < n - 1) && !(D.lookup (cut text place (n - 1 + 1))).isSome) = true then szFrom D text place (n - 1) else n - 1 + 1 := by
      conv => lhs; rw [show n = (n - 1) + 1 by omega]
      rw [szFrom]
    refine ⟨_, ET.bool (AllT.and (ET.cmp (EV.local rfl g4) EV.cint Bi.gt_int rfl) fun _ => AllT.and (ET.cmp (EV.sliceS (EV.local rfl g3) (PartOf.one (EV.local rfl g2)) (PartOf.one (EV.bin (EV.local rfl g2) (EV.local rfl g4) Bi.add_int)) hsl) (EV.gat hge rfl) (Bi.notIn_gdict hD) rfl) fun _ => AllT.and_nil), fun hb2 => ?_, fun hb2 => ?_⟩
    · have hb3 := hsz.symm.trans hb2
      rw [if_pos hb3] at hst
      have hn1 : 0 < n - 1 := by rw [Bool.and_eq_true, decide_eq_true_eq] at hb3; exact hb3.1
      refine EX.cons (EX1.aug rfl g4 EV.cint Bi.isub_int (EX.nil ⟨n - 1, by omega, rfl, lk g1, lk g2, lk g3, ?_, hn1, ?_⟩))
      · show List.lookup _ _ = _
        rw [lookup_cons_of, if_pos rfl]
        congr 2
        omega
      · rw [← hst]; exact g6
    · have hb3 := hsz.symm.trans hb2
      rw [hb3, if_neg (by decide)] at hst
      have hn : n = szFrom D text place 3 := by rw [← g6, hst]; omega
      have hstep : piecesFrom D text text.length place = cut text place n :: piecesFrom D text text.length (place + n) := by
        obtain ⟨m, hm⟩ : ∃ m, text.length = m + 1 := ⟨text.length - 1, by omega⟩
        conv => lhs; rw [hm]
        rw [piecesFrom, if_pos hpl, ← hn, pieces_fuel m text.length (place + n) (by omega) (by omega)]
      show EX _ _ _ _ _
      refine EX.cons (EX1.appendG (M₁ := []) (M₂ := []) (EV.local rfl g1) rfl (EV.sliceS (EV.local rfl g3) (PartOf.one (EV.local rfl g2)) (PartOf.one (EV.bin (EV.local rfl g2) (EV.local rfl g4) Bi.add_int)) hsl) (by rw [List.length_map]; exact le_size (by omega)) rfl rfl rfl rfl ?_)
      refine EX.cons (EX1.aug rfl g2 (EV.local rfl g4) Bi.iadd_int (EX.nil ⟨text.length - (place + n), by omega, place + n, done ++ [cut text place n], ?_, lk g1, ?_, lk g3, rfl, by simp; omega, ?_⟩))
      · simp [cut]
      · show List.lookup _ _ = _
        rw [lookup_cons_of, if_pos rfl]
        rfl
      · rw [← h5, hstep]; simp
  · have hpl : text.length ≤ place := by have := of_decide_eq_false hb; omega
    have hnil : piecesFrom D text text.length place = [] := by
      rw [pieces_fuel text.length 0 place (by omega) (by omega)]; rfl
    rw [hnil, List.append_nil] at h5
    show EX _ _ _ _ _
    exact EX.cons (EX1.retOwn (EV.local rfl h1) (List.mem_singleton.mpr rfl) (.inl (by rw [h5])))
end Mine

/-! F2d -/
namespace Mine
open PySem PySem.W PySem.Calls PyProof.Rows PySem.Challenge
set_option Elab.async false
set_option maxRecDepth 100000
set_option maxHeartbeats 4000000

theorem fmod_in {x m : Int} (hm : 0 < m) : 0 ≤ x.fmod m ∧ x.fmod m < m := ⟨Int.fmod_nonneg_of_pos _ hm, Int.fmod_lt_of_pos _ hm⟩
theorem fits_small {i : Int} (h0 : 0 ≤ i) (h1 : i < 1000000) : fitsSsize i = true := by
  unfold fitsSsize
  simp; omega
theorem len_item' (x : Str) (i : Int) : (Txt.item x i).length = 1 := rfl
theorem Ix.strOk {C : Cx} {V : Vars} {M : Owns} {x : Str} {i : Int} (h0 : 0 ≤ i) (h1 : i < x.length) (h2 : x.length < 1000000) : Ix C V M (.str x) (.int i) (.str (Txt.item x i)) :=
  Ix.str (fits_small h0 (by omega)) (charAt_isSome (by omega) h1)
theorem Bi.divC {C : Cx} {V : Vars} {M : Owns} {a b : Int} (h1 : b ≠ 0) (h2 : b.natAbs < 1073741824) : Bi C V M (binaryOp .FloorDiv) (.int a) (.int b) (.int (a.fdiv b)) := Bi.div_int h1 (PyProof.noPylong_small h2)


theorem up_split {a : Int} {n : Nat} {done rest : List PV} {p : PV} (h : upFrom a n = done ++ p :: rest) : p = .int (a + done.length) ∧ done.length < n := by
  have hi : (upFrom a n)[done.length]? = some p := by rw [h]; simp
  have hl := (List.getElem?_eq_some_iff.mp hi).1
  rw [upFrom_len] at hl
  exact ⟨upFrom_get hi, hl⟩
def baseOf (k : Nat) : Int := if k = 0 then 3 else 4
theorem baseOf_cases (k : Nat) : baseOf k = 3 ∨ baseOf k = 4 := by unfold baseOf; split <;> simp
def sym2 (i : Int) : Str := Txt.item "012s" i
theorem len_012s : Str.length (Str.ofString "012s") = 4 := by decide +kernel
def bodyS (b d : Int) : Str := Txt.slice ((sym2 ((d.fdiv 3).fmod b) ++ sym2 (((d.fdiv 3).fdiv b).fmod b)) ++ sym2 (((d.fdiv 3).fdiv (b ^ 2)).fmod b)) none (some (1 + d.fmod 3))
def bodyK (draws : List Int) (k : Nat) : Str := bodyS (baseOf k) (draws.getD k 0)
theorem bodies_ok {prog : Program} {w : World} {mg mb : Str → Option Value} {K : List (Addr × Obj)} {f : Addr} {mod code : Value} (hd : IsDef K f (fdOf "_law_bodies" (parts pw_re0170_02 64) .none mod code))
    (hrange : mg "range" = none) {draws : List Int} (hdl : draws.length = 5) :
    FnOk prog w mg mb K f [.list (draws.map .int)] [] (.list (((List.range 5).map (bodyK draws)).map .str)) 1 := by
  refine FnOk.of_body (names := ["draws"]) hd rfl ?_ (by decide) rfl ⟨[], fun _ => rfl, List.nodup_nil⟩ ?_ ?_
  · intro vs hv
    match vs, hv with
    | [a], _ => rfl
  · intro L x hx
    rw [List.mem_singleton.mp hx]
    exact .inl rfl
  intro A L
  refine EX.cons (EX1.newList (.inl rfl) fun a => ?_)
  refine EX.cons (EX1.for (fun done V' M' => M' = [(a, .list (((List.range done.length).map (bodyK draws)).map .str))] ∧ vat V' "bodies" = some (.at a) ∧ vat V' "draws" = some (.list (draws.map .int))) rfl
    (It.range1 (EV.builtin rfl hrange (by decide +kernel) (by decide)) EV.cint rfl (by decide) (by decide)) ⟨rfl, rfl, rfl⟩ ?_ ?_ (fun _ => rfl))
  · rintro done p rest V' M' hit ⟨rfl, g1, g2⟩
    obtain ⟨rfl, hk⟩ := up_split hit
    generalize hkk : done.length = k at *
    rw [show (0 : Int) + (k : Int) = (k : Int) by omega]
    have hk5 : k < 5 := hk
    have hget : (draws.map PV.int)[(k : Int).toNat]? = some (.int (draws.getD k 0)) := by
      rw [Int.toNat_natCast, List.getElem?_map, List.getD_eq_getElem?_getD, List.getElem?_eq_getElem (by omega)]; rfl
    have hb := baseOf_cases k
    have hb0 : baseOf k ≠ 0 := by omega
    have hbn : (baseOf k).natAbs < 1073741824 := by omega
    have hbp : 0 < baseOf k := by omega
    have hb2 : (baseOf k) ^ 2 ≠ 0 ∧ ((baseOf k) ^ 2).natAbs < 1073741824 := by rcases hb with h | h <;> rw [h] <;> decide
    have hpow : ∀ C V M, Bi C V M (binaryOp .Pow) (.int (baseOf k)) (.int 2) (.int ((baseOf k) ^ 2)) := fun C V M => by
      rcases hb with h | h <;> rw [h]
      · exact Bi.pow_int (by decide) (by decide) (by decide) (by decide) (by decide)
      · exact Bi.pow_int (by decide) (by decide) (by decide) (by decide) (by decide)
    have hix : ∀ (x : Int) C V M, Ix C V M (.str (Str.ofString "012s")) (.int (x.fmod (baseOf k))) (.str (sym2 (x.fmod (baseOf k)))) := fun x C V M => by
      have h1 := fmod_in (x := x) hbp
      exact Ix.strOk h1.1 (by rw [len_012s]; omega) (by rw [len_012s]; decide)
    have hl1 : ∀ i : Int, (sym2 i).length = 1 := fun _ => rfl
    have hadd : ∀ a b : Str, (a ++ b).length = a.length + b.length := fun a b => by
      show (a.cps ++ b.cps).size = _; rw [Array.size_append]; rfl
    refine EX.cons (EX1.assign (pv := .int (baseOf k)) (.inl rfl) (EV.ifExp (ET.cmp (EV.local rfl rfl) EV.cint Bi.eq_int rfl) (fun h => EV.of_eq EV.cint ?_) (fun h => EV.of_eq EV.cint ?_)) rfl ?_)
    · have : k = 0 := by have := eq_of_beq h; omega
      unfold baseOf; rw [if_pos this]
    · have : ¬ k = 0 := fun q => by subst q; cases h
      unfold baseOf; rw [if_neg this]
    refine EX.cons (EX1.assign (pv := .int ((draws.getD k 0).fdiv 3)) (.inl rfl) (EV.bin (EV.sub (EV.local rfl (lk (lk g2))) (EV.local rfl rfl) (Ix.list (by omega) hget (by omega))) EV.cint (Bi.divC (by decide) (by decide))) rfl ?_)
    refine EX.cons (EX1.assign (.inl rfl) (EV.bin (EV.bin (EV.sub EV.cstr (EV.bin (EV.local rfl rfl) (EV.local rfl rfl) (Bi.mod_int hb0)) (hix _ _ _ _)) (EV.sub EV.cstr (EV.bin (EV.bin (EV.local rfl rfl) (EV.local rfl rfl) (Bi.divC hb0 hbn)) (EV.local rfl rfl) (Bi.mod_int hb0)) (hix _ _ _ _)) (Bi.add_str (by rw [hl1, hl1]; decide)))
      (EV.sub EV.cstr (EV.bin (EV.bin (EV.local rfl rfl) (EV.bin (EV.local rfl rfl) EV.cint (hpow _ _ _)) (Bi.divC hb2.1 hb2.2)) (EV.local rfl rfl) (Bi.mod_int hb0)) (hix _ _ _ _)) (Bi.add_str (by rw [hadd, hl1, hl1, hl1]; decide))) rfl ?_)
    refine EX.cons (EX1.appendG (M₁ := []) (M₂ := []) (p := .str (bodyK draws k)) (EV.local rfl (lk (lk (lk (lk g1))))) rfl (EV.sliceS (EV.local rfl rfl) PartOf.nil (PartOf.one (EV.bin EV.cint (EV.bin (EV.sub (EV.local rfl (lk (lk (lk (lk g2))))) (EV.local rfl rfl) (Ix.list (by omega) hget (by omega))) EV.cint (Bi.mod_int (by decide))) Bi.add_int)) (by rw [hadd, hadd, hl1, hl1, hl1]; decide)) (by rw [List.length_map, List.length_map, List.length_range]; exact le_size (by omega)) rfl rfl rfl rfl ?_)
    refine EX.nil ⟨?_, lk (lk (lk (lk g1))), lk (lk (lk (lk g2)))⟩
    rw [List.length_append, hkk, List.length_singleton, List.range_succ, List.map_append, List.map_append]; rfl
  · rintro V' M' ⟨rfl, g1, g2⟩
    rw [upFrom_len]
    exact EX.cons (EX1.retOwn (EV.local rfl g1) (List.mem_singleton.mpr rfl) (.inl rfl))
end Mine

/-! F2f -/
namespace Mine
open PySem PySem.W PySem.Calls PyProof.Rows PySem.Challenge PySem.Builtin
set_option Elab.async false
set_option maxRecDepth 100000

def methOf (p : Program) (i j : Nat) : Str × Arguments × List Stmt × Scope := match p.main.body[i]? with
  | some (.ClassDef _ _ _ body _ _ _ _ _ _ _) => (match body[j]? with
    | some (.FunctionDef n a b _ _ _ s _ _ _) => (n, a, b, s)
    | _ => default)
  | _ => default
abbrev nameCode : List Nat := [14, 10, 4, 1, 1, 22, 0, 31, 16, 127, 0, 13, 7, 22, 0, 31, 16, 127, 0, 1]
abbrev valueCode : List Nat := [14, 14, 4, 1, 1, 9, 4294966783, 0, 0, 2147483648, 0, 0, 0, 0, 0, 13, 11, 9, 4294966783, 0, 0, 2147483648, 0, 0, 0, 0, 0, 1]
theorem none_name {l : List Nat} (h : ∀ c ∈ l, 32 ≤ c ∧ c ≠ 127) : NoneIn nameCode.toArray l := fun c hc seen => by
  obtain ⟨h1, h2⟩ := h c hc
  refine ⟨?w, ?h⟩
  case h =>
  show Sre.inSet nameCode.toArray c 20 5 true seen = _
  unfold Sre.inSet
  show (if (decide (0 ≤ c) && decide (c ≤ 31)) = true then _ else _) = _
  rw [if_neg (by simp; omega)]
  unfold Sre.inSet
  show (if (c == 127) = true then _ else _) = _
  rw [if_neg (by simpa using h2)]
  rfl
theorem none_value {l : List Nat} (h : ∀ c ∈ l, 32 ≤ c ∧ c < 127) : NoneIn valueCode.toArray l := fun c hc seen => by
  obtain ⟨h1, h2⟩ := h c hc
  refine ⟨?w, ?h⟩
  case h =>
  show Sre.inSet valueCode.toArray c 28 5 true seen = _
  unfold Sre.inSet
  show (if (decide (c < 256) && (valueCode.toArray.getD (5 + (1 + c / 32)) 0).testBit (c % 32)) = true then _ else _) = _
  have : ∀ d, d < 127 → 32 ≤ d → (valueCode.toArray.getD (5 + (1 + d / 32)) 0).testBit (d % 32) = false := by decide
  rw [this c h2 h1, Bool.and_false, if_neg (by decide)]
  rfl
theorem Tr.none {C : Cx} {V : Vars} {M : Owns} : Tr C V M .none false := fun ok B a s Q E hE tk r k => by cases r; exact PyProof.Rows.truthy_none (k s.heap s.toks .rfl)
/-- what the text's names stand for -/
structure HdrG (mg : Str → Option Value) (K : List (Addr × Obj)) (an tn av tv : Addr) : Prop where
  ty : mg "type" = none
  st : mg "str" = none
  nm : mg "_name_disallowed_re" = some (.ref an)
  vl : mg "_value_disallowed_re" = some (.ref av)
  pn : PatAt K an tn nameCode
  pv : PatAt K av tv valueCode
def Plain (x : Str) : Prop := (∀ c ∈ x.cps.toList, 32 ≤ c ∧ c < 127) ∧ x.length ≤ 100000
theorem convert_ok {prog : Program} {w : World} {mg mb : Str → Option Value} {K : List (Addr × Obj)} {f : Addr} {mod code : Value} {an tn av tv Cl : Addr} (hd : IsDef K f (fdOf "Headers._convert_string_type" (methOf pw_re0170_02 7 1) .none mod code)) (G : HdrG mg K an tn av tv)
    {p : PV} {x : Str} (hx : Plain x) {b : Bool} : FnOk prog w mg mb K f [.inst Cl p, .str x] [("name", .bool b)] (.str x) 1 := by
  refine FnOk.ofM (FnOkM.of_body (names := ["self", "value", "name"]) (ps' := [.inst Cl p, .str x, .bool b]) hd rfl ?_ (by decide) rfl ⟨[], fun _ => rfl, List.nodup_nil⟩ ?_ ?_)
  · intro A E X vs s Q _ _ hr k
    obtain ⟨v0, r, rfl, h0, v1, r', rfl, h1, h2⟩ := hr
    cases h2
    exact wpAny_pure (k [v0, v1, .bool b] s.heap s.toks .rfl rfl ⟨_, _, rfl, h0, _, _, rfl, h1, _, _, rfl, rfl, rfl⟩)
  · intro L x hx
    simp only [List.mem_cons, List.not_mem_nil, or_false] at hx
    rcases hx with rfl | rfl | rfl <;> exact .inl rfl
  intro A L
  refine EX.cons (EX1.ite (b := true) (ET.of_eq (ET.cmp (EV.typeOf (EV.builtin rfl G.ty (by decide +kernel) (by decide)) (EV.local rfl rfl) rfl Ty.str (by decide)) (EV.builtin (v := .type "str") rfl G.st (by decide +kernel) (by decide)) Bi.is_type rfl) (by decide)) (fun _ => ?_) (fun h => nomatch h))
  refine EX.cons (EX1.assign (pv := .at (if b then an else av)) (.inl rfl) (EV.ifExp (ET.val (EV.local rfl rfl) Tr.bool rfl) (fun hb => EV.of_eq (EV.gat G.nm rfl) (by rw [hb]; rfl)) (fun hb => EV.of_eq (EV.gat G.vl rfl) (by rw [hb]; rfl))) rfl ?_)
  refine EX.cons (EX1.ite (b := false) (ET.val (EV.meth (ps := [.str x]) (r := .none) (EV.local rfl rfl) rfl (EVs.cons (EV.local rfl rfl) EVs.nil) mth_search ?_ ?_ rfl rfl (by decide)) Tr.none rfl) (fun h => nomatch h) (fun _ => EX.nil ?_))
  · cases b
    · exact Ty.pat (C := calleeCx prog w mg mb K _ A L f 0) G.pv
    · exact Ty.pat (C := calleeCx prog w mg mb K _ A L f 0) G.pn
  · have hz : x.length < 2 ^ 62 := by have := hx.2; omega
    cases b
    · exact Bn.search_none (C := calleeCx prog w mg mb K _ A L f 0) G.pv (by decide +kernel) (none_value hx.1) hz
    · exact Bn.search_none (C := calleeCx prog w mg mb K _ A L f 0) G.pn (by decide +kernel) (none_name fun c hc => ⟨(hx.1 c hc).1, by have := (hx.1 c hc).2; omega⟩) hz
  exact EX.cons (EX1.ret (EV.local rfl rfl) ⟨.inl rfl, (fun _ q => nomatch q), fun h => absurd rfl h⟩)
end Mine

/-! F2g -/
namespace Mine
open PySem PySem.W PySem.Calls PyProof.Rows PySem.Challenge PySem.Builtin
set_option Elab.async false
set_option maxRecDepth 100000

abbrev rowPV (r : Str × Str) : PV := .tup [.str r.1, .str r.2]
def keepRow (n : Str) : PV → Bool
  | .tup [.str a, _] => Txt.lower a == Txt.lower n
  | _ => false
def sndRow : PV → PV
  | .tup [_, v] => v
  | _ => .none
theorem rows_pick (n : Str) : ∀ rows : List (Str × Str), ((rows.map rowPV).filter (keepRow n)).map sndRow = (rows.filter fun r => Txt.lower r.1 == Txt.lower n).map fun r => PV.str r.2
  | [] => rfl
  | r :: rows => by
    have ih := rows_pick n rows
    rw [List.map_cons]
    by_cases h : (Txt.lower r.1 == Txt.lower n) = true
    · rw [List.filter_cons_of_pos (p := keepRow n) (by exact h), List.filter_cons_of_pos (p := fun r : Str × Str => Txt.lower r.1 == Txt.lower n) h, List.map_cons, List.map_cons, ih]; rfl
    · rw [List.filter_cons_of_neg (p := keepRow n) (by exact h), List.filter_cons_of_neg (p := fun r : Str × Str => Txt.lower r.1 == Txt.lower n) h, ih]
theorem Ix.tup {C : Cx} {V : Vars} {M : Owns} {l : List PV} {i : Nat} {p : PV} (hx : l[i]? = some p) (hl : l.length ≤ 1000) : Ix C V M (.tup l) (.int (i : Nat)) p := fun ok B a b s Q E hE tk r1 r2 k => by
  obtain ⟨a, vs, n, rfl, q, r⟩ := r1; obtain ⟨u, rfl⟩ := r2
  obtain ⟨v, e, rv⟩ := r.get hx
  have hi : i < l.length := (List.getElem?_eq_some_iff.mp hx).1
  have hT : IsTup s.heap a vs.toArray := ⟨_, (vis_get q).1, rfl, n, rfl⟩
  have hlen : vs.toArray.size = l.length := by rw [List.size_toArray, r.len]
  refine ⟨"tuple", _, slot_tuple_getitem.lookup, hT.typeIs, getItem_tuple (j := i) hT (by omega) (by omega) ?_ (by simpa using e) (k v s.heap s.toks .rfl rv)⟩
  rw [hlen]
  unfold seqIndex?
  simp only [show ¬((i : Int) < 0) by omega, if_false]
  rw [if_pos (by simp; omega)]
  simp
theorem getall_ok {prog : Program} {w : World} {mg mb : Str → Option Value} {K : List (Addr × Obj)} {f fc : Addr} {mod code mod' code' : Value} {an tn av tv Cl : Addr} (hd : IsDef K f (fdOf "Headers.get_all" (methOf pw_re0170_02 7 7) .none mod code)) (G : HdrG mg K an tn av tv)
    (hc : IsDef K fc (fdOf "Headers._convert_string_type" (methOf pw_re0170_02 7 1) .none mod' code')) (hm : Meth K Cl "_convert_string_type" fc) (hh : HdrCls K Cl)
    {rows : List (Str × Str)} {n : Str} (hn : Str.tooLong (Txt.lower n).length = false) (hp : Plain (Txt.lower n)) (hr : ∀ r ∈ rows, Str.tooLong (Txt.lower r.1).length = false) (hl : rows.length ≤ 1000) :
    FnOk prog w mg mb K f [.inst Cl (.list (rows.map rowPV)), .str n] [] (.list ((rows.filter fun r => Txt.lower r.1 == Txt.lower n).map fun r => PV.str r.2)) 2 := by
  refine FnOk.of_body (names := ["self", "name"]) hd rfl ?_ (by decide) rfl ⟨["name"], fun _ => rfl, by decide⟩ ?_ ?_
  · intro vs hv
    match vs, hv with
    | [a, b], _ => rfl
  · intro L x hx
    simp only [List.mem_cons, List.not_mem_nil, or_false] at hx
    rcases hx with rfl | rfl
    · exact .inl rfl
    · exact .inr ⟨rfl, rfl⟩
  intro A L
  refine EX.cons (EX1.assign (.inr ⟨rfl, rfl, rfl⟩) (EV.methI (EV.local rfl rfl) hm rfl (EVs.cons (EV.meth (EV.cell rfl rfl) rfl EVs.nil mth_lower Ty.str (Bn.lower hn) rfl rfl (by decide)) EVs.nil) KwOk.bool hc (convert_ok hc G hp) (Nat.le_refl 1) rfl rfl (by decide)) rfl ?_)
  refine EX.cons (EX1.ret (pv := .list (((rows.map rowPV).filter (keepRow n)).map sndRow)) ?_ (.inl (by rw [rows_pick])))
  refine EV.comp (Vc := [(Str.ofString "name", .str (Txt.lower n))]) ?_ (It.list (EV.attrHdr (EV.local rfl rfl) hh rfl fun P L v h => by obtain ⟨a, vs, n, e, _⟩ := h; exact ⟨a, e⟩)) ?_ ?_ (fun _ => rfl)
  · refine ⟨?_, ?_, rfl, ?_, rfl, ?_⟩
    · intro p hp hk
      simp only [List.mem_cons, List.not_mem_nil, or_false] at hp
      rcases hp with rfl | rfl | rfl <;> first | (cases hk; done) | rfl
    · intro y hy hk
      simp only [List.mem_cons, List.not_mem_nil, or_false] at hy
      rcases hy with rfl | rfl | rfl <;> cases hk
    · intro y hy hk
      simp only [List.mem_cons, List.not_mem_nil, or_false] at hy
      rcases hy with rfl | rfl | rfl <;> first | (cases hk; done) | rfl
    · intro y pv e
      rw [lookup_cons_of] at e
      by_cases q : y = Str.ofString "name"
      · subst q
        rw [if_pos rfl] at e
        cases e
        exact ⟨rfl, rfl, rfl, rfl⟩
      · rw [if_neg q] at e; cases e
  · rw [List.length_map]; exact le_size (by omega)
  · intro Ca p hp
    obtain ⟨r, hr', rfl⟩ := List.mem_map.mp hp
    refine ⟨CT.one ?_, fun _ => ?_⟩
    · exact ET.cmp (EV.meth (EV.sub (EV.local rfl rfl) EV.cint (Ix.tup (i := 0) rfl (by simp))) rfl EVs.nil mth_lower Ty.str (Bn.lower (hr r hr')) rfl rfl (by decide)) (EV.cell rfl rfl) Bi.eq_str rfl
    · exact EV.sub (EV.local rfl rfl) EV.cint (Ix.tup (i := 1) rfl (by simp))
end Mine

/-! F2h -/
namespace Mine
open PySem PySem.W PySem.Calls PyProof.Rows PySem.Challenge PySem.Builtin
set_option Elab.async false
set_option maxRecDepth 100000

theorem init_ok {prog : Program} {w : World} {mg mb : Str → Option Value} {K : List (Addr × Obj)} {f : Addr} {mod code : Value} {Cl da x dx L : Addr} (hd : IsDef K f (fdOf "Headers.__init__" (methOf pw_re0170_02 7 0) (.ref da) mod code))
    (hda : ∃ n, (da, ({ cls := .type "tuple", data := .seq #[.none] n } : Obj)) ∈ K) (hty : mg "type" = none) (hli : mg "list" = none) {Kf : List (Addr × Obj)} (hKf : ∀ p ∈ Kf, p ∈ K) (hs : HdrSet Kf Cl) :
    FnOkM prog w mg mb ((x, instObj Cl dx) :: K) f [.at x, .at L] [] [(dx, .dict []), (L, .list [])] .none [(dx, .dict [(hdrName, .at L)]), (L, .list [])] 1 := by
  have hd' : IsDef ((x, instObj Cl dx) :: K) f (fdOf "Headers.__init__" (methOf pw_re0170_02 7 0) (.ref da) mod code) := by
    obtain ⟨o, hK, ho, hclo, hgl, hbl, hkd, hgen, hco, c, oc, cvs, ct, hc1, hc2, hc3, hc4⟩ := hd
    exact ⟨o, List.mem_cons_of_mem _ hK, ho, hclo, hgl, hbl, hkd, hgen, hco, c, oc, cvs, ct, hc1, List.mem_cons_of_mem _ hc2, hc3, hc4⟩
  refine FnOkM.of_body (names := ["self", "headers"]) (ps' := [.at x, .at L]) hd' rfl ?_ (by decide) rfl ⟨[], fun _ => rfl, List.nodup_nil⟩ ?_ ?_
  · intro A E X vs s Q G _ hr k
    obtain ⟨v0, r, rfl, h0, v1, r', rfl, h1, h2⟩ := hr
    cases h2
    obtain ⟨n, hda⟩ := hda
    have q := G.k _ (List.mem_cons_of_mem _ hda)
    show wpAny _ _ (seqItems? (.ref da) >>= _) _ _ _
    refine wpAny_bind (wpAny_seqItems q rfl ?_)
    exact wpAny_pure (k [v0, v1] s.heap s.toks .rfl rfl ⟨_, _, rfl, h0, _, _, rfl, h1, rfl⟩)
  · intro L x hx
    simp only [List.mem_cons, List.not_mem_nil, or_false] at hx
    rcases hx with rfl | rfl <;> exact .inl rfl
  intro A L'
  have hmL : (L, MO.list []) ∈ ([(dx, .dict []), (L, .list [])] : Owns) := List.mem_cons_of_mem _ List.mem_cons_self
  refine EX.cons (EX1.assign (pv := .at L) (.inl rfl) (EV.ifExp (b := true) (ET.cmp (EV.local rfl rfl) EV.cnone (Bi.isNot_none fun P L v h => by cases h; intro z; cases z) rfl) (fun _ => EV.local rfl rfl) (fun h => nomatch h)) rfl ?_)
  refine EX.cons (EX1.ite (b := false) (ET.of_eq (ET.cmp (EV.typeOf (EV.builtin rfl hty (by decide +kernel) (by decide)) (EV.local rfl rfl) rfl (Ty.own hmL) (by decide)) (EV.builtin (v := .type "list") rfl hli (by decide +kernel) (by decide)) Bi.isNot_type rfl) (by decide)) (fun h => nomatch h) (fun _ => EX.nil ?_))
  refine EX.cons (EX1.storeHdr (M₁ := []) (M₂ := [(L, .list [])]) (EV.local rfl rfl) (EV.local rfl rfl) List.mem_cons_self (fun p hp => List.mem_cons_of_mem _ (hKf p hp)) hs rfl ?_)
  refine EX.cons (EX1.ite (b := true) ?_ (fun _ => ?_) (fun h => nomatch h))
  · exact ET.val EV.cbool Tr.bool rfl
  refine EX.cons (EX1.forOwnNil (EV.local rfl rfl) (List.mem_cons_of_mem _ List.mem_cons_self) (EX.nil ?_) (fun _ => rfl))
  exact EX.nil ⟨.inr ⟨rfl, rfl⟩, fun p hp => hp, fun _ => Scalar.none⟩

theorem Bn.joinOwn {C : Cx} {V : Vars} {M : Owns} {x : Str} {a : Addr} {texts : List Str} (hm : (a, MO.list (texts.map .str)) ∈ M) (hk : JoinOk x texts = true) : Bn C V M "str.join" [.str x, .at a] (.str (Txt.join x texts)) := fun ok B vs s Q E hE tk r k => by
  obtain ⟨v, r', rfl, ⟨t, rfl⟩, v', r'', rfl, rfl, h2⟩ := r; cases h2
  obtain ⟨⟨ws, n, q, r⟩, _⟩ := hE.own _ hm
  obtain ⟨l, rfl, e⟩ := RepL.strs r
  exact SC.join (s := s) (listObj_of q) e hk fun t' k' => k _ s.heap k' .rfl ⟨_, rfl⟩
theorem add_ok {prog : Program} {w : World} {mg mb : Str → Option Value} {K : List (Addr × Obj)} {f fc : Addr} {mod code mod' code' : Value} {an tn av tv Cl L : Addr} (hd : IsDef K f (fdOf "Headers.add_header" (methOf pw_re0170_02 7 16) .none mod code)) (G : HdrG mg K an tn av tv)
    (hc : IsDef K fc (fdOf "Headers._convert_string_type" (methOf pw_re0170_02 7 1) .none mod' code')) (hm : Meth K Cl "_convert_string_type" fc) (hh : HdrCls K Cl)
    {l : List PV} (hl : l.length ≤ 1000) {n v : Str} (hn : Plain n) (hv : Plain v) :
    FnOkM prog w mg mb K f [.inst Cl (.at L), .str n, .str v] [] [(L, .list l)] .none [(L, .list (l ++ [.tup [.str n, .str v]]))] 2 := by
  refine FnOkM.of_body (names := ["self", "_name", "_value", "_params"]) (ps' := [.inst Cl (.at L), .str n, .str v, .dict []]) hd rfl ?_ (by decide) rfl ⟨[], fun _ => rfl, List.nodup_nil⟩ ?_ ?_
  · intro A E X vs s Q G hX hr k
    obtain ⟨v0, r, rfl, h0, v1, r', rfl, h1, v2, r2, rfl, h2, h3⟩ := hr
    cases h3
    show wpAny _ _ (alloc emptyDict >>= fun d => pure [(Str.ofString "self", v0), (Str.ofString "_name", v1), (Str.ofString "_value", v2), (Str.ofString "_params", .ref d)]) _ _ _
    have e0 := get_size s.heap
    have hsm : (s.heap.objs.size == sysModules) = false := by
      have : mainGlobals < s.heap.objs.size := by obtain ⟨o, es, ep, e, _⟩ := G.g; exact Heap.lt_size e
      have h3 : (3 : Nat) < s.heap.objs.size := this
      have : s.heap.objs.size ≠ 1 := by omega
      simpa [sysModules] using this
    refine wpAny_bind (wpAny_alloc (wpAny_pure (k [v0, v1, v2, .ref s.heap.objs.size] (s.heap.push emptyDict) s.toks (Keep.rfl.push _) rfl ?_)))
    have kp : Keep s.heap (s.heap.push emptyDict) := Keep.rfl.push _
    refine ⟨_, _, rfl, h0.get (vis_keep kp), _, _, rfl, h1.get (vis_keep kp), _, _, rfl, h2.get (vis_keep kp), _, _, rfl, ⟨_, [], 0, rfl, hsm, vis_of (Heap.get?_push_size _ rfl) fun z => ?_, rfl⟩, rfl⟩
    obtain ⟨o, e⟩ := hX _ z
    rw [e0] at e; cases e
  · intro L x hx
    simp only [List.mem_cons, List.not_mem_nil, or_false] at hx
    rcases hx with rfl | rfl | rfl | rfl <;> exact .inl rfl
  intro A L'
  refine EX.cons (EX1.newList (.inl rfl) fun pa => ?_)
  refine EX.cons (EX1.ite (b := true) (ET.cmp (EV.local rfl rfl) EV.cnone (Bi.isNot_none fun P L v h => by obtain ⟨t, rfl⟩ := h; intro z; cases z) rfl) (fun _ => ?_) (fun h => nomatch h))
  refine EX.cons (EX1.assign (.inl rfl) (EV.methI (EV.local rfl rfl) hm rfl (EVs.cons (EV.local rfl rfl) EVs.nil) KwOk.bool hc (convert_ok hc G hv) (Nat.le_refl 1) rfl rfl (by decide)) rfl ?_)
  refine EX.cons (EX1.appendG (M₁ := []) (M₂ := [(L, .list l)]) (EV.local rfl rfl) rfl (EV.local rfl rfl) (Nat.zero_le _) rfl rfl rfl rfl ?_)
  refine EX.nil ?_
  refine EX.cons (EX1.forItemsNil (EV.local rfl rfl) ?_ rfl rfl (fun _ => rfl))
  refine EX.cons (EX1.appendG (M₁ := [(pa, .list [.str v])]) (M₂ := []) (EV.attrHdr (EV.local rfl rfl) hh rfl fun P L v h => by cases h; exact ⟨_, rfl⟩) rfl
    (EV.tuple rfl (EVs.cons (EV.methI (EV.local rfl rfl) hm rfl (EVs.cons (EV.local rfl rfl) EVs.nil) KwOk.bool hc (convert_ok hc G hn) (Nat.le_refl 1) rfl rfl (by decide))
      (EVs.cons (EV.meth EV.cstr rfl (EVs.cons (EV.local rfl rfl) EVs.nil) mth_join Ty.str (Bn.joinOwn (texts := [v]) List.mem_cons_self ?_) rfl rfl (by decide)) EVs.nil)) (by decide)) (le_size (by omega)) rfl rfl rfl rfl ?_)
  · have h2 := hv.2
    have h3 : Str.length (Str.ofString "; ") = 2 := by decide +kernel
    simp only [JoinOk, Bool.not_eq_true', List.foldl_toArray', List.foldl_cons, List.foldl_nil, h3]
    show decide _ = false
    exact decide_eq_false (by show ¬ _ > _; simp [sizeLine]; omega)
  · refine EX.nil ⟨.inr ⟨rfl, rfl⟩, fun p hp => ?_, fun _ => Scalar.none⟩
    rw [List.mem_singleton.mp hp]
    exact List.mem_cons_of_mem _ List.mem_cons_self
end Mine

/-! F2i -/
namespace Mine
open PySem PySem.W PySem.Calls PyProof.Rows PySem.Challenge PySem.Builtin
set_option Elab.async false
set_option maxRecDepth 100000
set_option maxHeartbeats 4000000

abbrev spPV (sp : List (Str × Str)) : List (Str × PV) := sp.map fun e => (e.1, PV.str e.2)
def spell (sp : List (Str × Str)) (s : Str) : Str := (sp.lookup s).getD s
def spellPV (sp : List (Str × Str)) : PV → PV
  | .str s => .str (spell sp s)
  | p => p
theorem sp_lookup (sp : List (Str × Str)) (s : Str) : ((spPV sp).lookup s).getD (.str s) = .str (spell sp s) := by
  unfold spell
  induction sp with
  | nil => rfl
  | cons e sp ih =>
    obtain ⟨a, b⟩ := e
    show (List.lookup s ((a, PV.str b) :: spPV sp)).getD _ = PV.str ((List.lookup s ((a, b) :: sp)).getD s)
    rw [lookup_cons_of, lookup_cons_of]
    split
    · rfl
    · exact ih
def valOf (sp : List (Str × Str)) (body : Str) : Str := Txt.join "" (body.cps.toList.map fun c => spell sp ⟨#[c]⟩)
def upIf (b : Bool) (s : Str) : Str := if b then Txt.upper s else s
def bit (x k : Int) : Bool := (x.fdiv k).fmod 2 == 1
/-- the row of one rule -/
def rowOf (sp : List (Str × Str)) (e : Int × Str) : Str × Str := (if bit e.1 192 then Str.ofString "S" else Str.ofString "s", upIf (bit e.1 384) (valOf sp e.2))
structure RowOk (sp : List (Str × Str)) (e : Int × Str) : Prop where
  j : JoinOk "" (e.2.cps.toList.map fun c => spell sp ⟨#[c]⟩) = true
  z : e.2.cps.toList.length ≤ 1000
  uv : Str.tooLong (Txt.upper (valOf sp e.2)).length = false
  pv : Plain (rowOf sp e).2
theorem plain_S : Plain (Str.ofString "S") := by
  have e : Str.ofString "S" = ofL [83] := by decide +kernel
  rw [e]; exact ⟨by decide, by decide⟩
theorem plain_s : Plain (Str.ofString "s") := by
  have e : Str.ofString "s" = ofL [115] := by decide +kernel
  rw [e]; exact ⟨by decide, by decide⟩
theorem plain_ss : Plain (Str.ofString "ss") := by
  have e : Str.ofString "ss" = ofL [115, 115] := by decide +kernel
  rw [e]; exact ⟨by decide, by decide⟩
theorem plain_name (sp : List (Str × Str)) (e : Int × Str) : Plain (rowOf sp e).1 := by
  unfold rowOf
  cases bit e.1 192
  · exact plain_s
  · exact plain_S

theorem rules_fn_ok {prog : Program} {w : World} {mg mb : Str → Option Value} {K : List (Addr × Obj)} {f fI fA fc : Addr} {mod code modI codeI modA codeA' mod' code' : Value} {an tn av tv Cl da : Addr} (hd : IsDef K f (fdOf "_law_rules" (parts pw_re0170_02 65) .none mod code)) (G : HdrG mg K an tn av tv)
    (hI : IsDef K fI (fdOf "Headers.__init__" (methOf pw_re0170_02 7 0) (.ref da) modI codeI)) (hda : ∃ n, (da, ({ cls := .type "tuple", data := .seq #[.none] n } : Obj)) ∈ K) (hli : mg "list" = none) (hz : mg "zip" = none)
    (hA : IsDef K fA (fdOf "Headers.add_header" (methOf pw_re0170_02 7 16) .none modA codeA')) (hmA : Meth K Cl "add_header" fA)
    (hc : IsDef K fc (fdOf "Headers._convert_string_type" (methOf pw_re0170_02 7 1) .none mod' code')) (hm : Meth K Cl "_convert_string_type" fc) (hh : HdrCls K Cl) (hs : HdrSet K Cl) (hmk : HdrMake K Cl fI) (hH : mg "Headers" = some (.ref Cl))
    {s0 s1 s2 : Str} {sp : List (Str × Str)} (hsp : sp = [(Str.ofString "0", s0), (Str.ofString "1", s1), (Str.ofString "2", s2)]) (hp0 : Plain ((s2 ++ s1) ++ s0)) (hz0 : s0.length ≤ 1000 ∧ s1.length ≤ 1000 ∧ s2.length ≤ 1000)
    {es : List (Int × Str)} (hes : ∀ e ∈ es, RowOk sp e) (hl : es.length ≤ 900) :
    FnOk prog w mg mb K f [.list (es.map fun e => .int e.1), .list (es.map fun e => .str e.2), .dict (spPV sp)] [] (.inst Cl (.list (((Str.ofString "ss", (s2 ++ s1) ++ s0) :: es.map (rowOf sp)).map rowPV))) 3 := by
  refine FnOk.of_body (names := ["draws", "bodies", "spelled"]) hd rfl ?_ (by decide) rfl ⟨["spelled"], fun _ => rfl, by decide⟩ ?_ ?_
  · intro vs hv
    match vs, hv with
    | [a, b, c], _ => rfl
  · intro L x hx
    simp only [List.mem_cons, List.not_mem_nil, or_false] at hx
    rcases hx with rfl | rfl | rfl
    · exact .inl rfl
    · exact .inl rfl
    · exact .inr ⟨rfl, rfl⟩
  intro A L
  have k0 : (spPV sp).lookup (Str.ofString "0") = some (.str s0) := by rw [hsp]; rfl
  have k1 : (spPV sp).lookup (Str.ofString "1") = some (.str s1) := by rw [hsp]; rfl
  have k2 : (spPV sp).lookup (Str.ofString "2") = some (.str s2) := by rw [hsp]; rfl
  have hadd : ∀ a b : Str, (a ++ b).length = a.length + b.length := fun a b => by
    show (a.cps ++ b.cps).size = _; rw [Array.size_append]; rfl
  refine EX.cons ?_
  refine EX1.makeHdr (fI := fI) (d := 1) ?_ ?_ hmk ?_ ?_ ?_ fun Lr => ?_
  · exact .inl rfl
  · exact EV.gref hH rfl
  · exact fun x dx L => init_ok hI hda G.ty hli (fun p hp => hp) hs
  · exact Nat.le_refl 2
  · rfl
  refine EX.cons (EX1.methM (M₁ := []) (M₂ := []) (ps := [.str (Str.ofString "ss"), .str ((s2 ++ s1) ++ s0)]) (EV.local rfl rfl) hmA rfl
    (EVs.cons EV.cstr (EVs.cons (EV.bin (EV.bin (EV.sub (EV.cell rfl rfl) EV.cstr (Ix.dict k2)) (EV.sub (EV.cell rfl rfl) EV.cstr (Ix.dict k1)) (Bi.add_str (le_size (by omega)))) (EV.sub (EV.cell rfl rfl) EV.cstr (Ix.dict k0)) (Bi.add_str (by rw [hadd]; exact le_size (by omega)))) EVs.nil))
    hA (add_ok hA G hc hm hh (l := []) (by decide) plain_ss hp0) (Nat.le_refl 2) rfl rfl (by decide) rfl rfl ?_)
  refine EX.cons (EX1.forP (fun done V' M' => ∃ dn rs : List (Int × Str), es = dn ++ rs ∧ done = (dn.map fun e => (PV.int e.1, PV.str e.2)) ∧ M' = [(Lr, .list (((Str.ofString "ss", (s2 ++ s1) ++ s0) :: dn.map (rowOf sp)).map rowPV))] ∧ vat V' "rules" = some (.inst Cl (.at Lr)) ∧ vat V' "spelled" = some (.dict (spPV sp))) rfl rfl
    (ItP.zip (EV.builtin rfl hz (by decide +kernel) (by decide)) (EV.local rfl rfl) (EV.local rfl rfl) rfl) ⟨[], es, rfl, rfl, rfl, rfl, rfl⟩ ?_ ?_ (fun _ => rfl))
  · rintro done p q rest V' M' hit ⟨dn, rs, d1, rfl, rfl, d4, d5⟩
    have hzip : ∀ l : List (Int × Str), (l.map fun e => PV.int e.1).zip (l.map fun e => PV.str e.2) = l.map fun e => (PV.int e.1, PV.str e.2) := fun l => by
      induction l with
      | nil => rfl
      | cons a l ih => rw [List.map_cons, List.map_cons, List.zip_cons_cons, ih]; rfl
    rw [hzip, d1] at hit
    cases rs with
    | nil =>
      exfalso
      have := congrArg List.length hit
      simp at this
    | cons e rs =>
      have hpq : (p, q) = (PV.int e.1, PV.str e.2) := by
        rw [List.map_append, List.map_cons] at hit
        exact ((List.append_cancel_left hit) |> List.cons.inj).1.symm
      obtain ⟨rfl, rfl⟩ := Prod.mk.inj hpq
      have R := hes e (by rw [d1]; simp)
      have hdl : dn.length ≤ 900 := by
        have := congrArg List.length d1
        rw [List.length_append] at this
        omega
      have hmap : ((e.2.cps.toList.map fun c => PV.str ⟨#[c]⟩).filter fun _ => true).map (spellPV sp) = (e.2.cps.toList.map fun c => spell sp ⟨#[c]⟩).map .str := by
        rw [List.filter_eq_self.mpr (fun _ _ => rfl), List.map_map, List.map_map]; rfl
      refine EX.cons (EX1.assign (pv := .str (valOf sp e.2)) (.inl rfl) (EV.meth EV.cstr rfl (EVs.cons (EV.of_eq (EV.comp (kp := fun _ => true) (f := spellPV sp) (Vc := [(Str.ofString "spelled", .dict (spPV sp))]) ?_ (It.str (EV.local rfl rfl)) ?_ ?_ (fun _ => rfl)) (congrArg PV.list hmap)) EVs.nil) mth_join Ty.str (Bn.join R.j) rfl rfl (by decide)) rfl ?_)
      · refine ⟨?_, ?_, rfl, ?_, rfl, ?_⟩
        · intro p hp hk
          simp only [List.mem_cons, List.not_mem_nil, or_false] at hp
          rcases hp with rfl | rfl | rfl <;> first | (cases hk; done) | rfl
        · intro y hy hk
          simp only [List.mem_cons, List.not_mem_nil, or_false] at hy
          rcases hy with rfl | rfl | rfl <;> cases hk
        · intro y hy hk
          simp only [List.mem_cons, List.not_mem_nil, or_false] at hy
          rcases hy with rfl | rfl | rfl <;> first | (cases hk; done) | rfl
        · intro y pv ee
          rw [lookup_cons_of] at ee
          by_cases q : y = Str.ofString "spelled"
          · subst q
            rw [if_pos rfl] at ee
            cases ee
            exact ⟨lk (lk d5), rfl, rfl, rfl⟩
          · rw [if_neg q] at ee; cases ee
      · rw [List.length_map]; exact le_size (by have := R.z; omega)
      · intro Ca p hp
        obtain ⟨c, _, rfl⟩ := List.mem_map.mp hp
        refine ⟨CT.nil, fun _ => ?_⟩
        exact EV.of_eq (EV.meth (EV.cell rfl rfl) rfl (EVs.cons (EV.local rfl rfl) (EVs.cons (EV.local rfl rfl) EVs.nil)) mth_get Ty.dict Bn.get2 rfl rfl (by decide)) (sp_lookup sp _)
      have hend : ((Str.ofString "ss", (s2 ++ s1) ++ s0) :: (dn ++ [e]).map (rowOf sp)).map rowPV = ((Str.ofString "ss", (s2 ++ s1) ++ s0) :: dn.map (rowOf sp)).map rowPV ++ [.tup [.str (rowOf sp e).1, .str (rowOf sp e).2]] := by simp
      have hlen : (((Str.ofString "ss", (s2 ++ s1) ++ s0) :: dn.map (rowOf sp)).map rowPV).length ≤ 1000 := by simp; omega
      refine EX.cons (EX1.ite (b := bit e.1 384) (ET.cmp (EV.bin (EV.bin (EV.local rfl rfl) EV.cint (Bi.divC (by decide) (by decide))) EV.cint (Bi.mod_int (by decide))) EV.cint Bi.eq_int rfl) (fun hb => ?_) (fun hb => EX.nil ?_))
      · refine EX.cons (EX1.assign (.inl rfl) (EV.meth (EV.local rfl rfl) rfl EVs.nil mth_upper Ty.str (Bn.upper R.uv) rfl rfl (by decide)) rfl (EX.nil ?_))
        have hv : Txt.upper (valOf sp e.2) = (rowOf sp e).2 := by unfold rowOf upIf; rw [hb]; rfl
        rw [hv]
        refine EX.cons (EX1.methM (M₁ := []) (M₂ := []) (ps := [.str (rowOf sp e).1, .str (rowOf sp e).2]) (EV.local rfl (lk (lk (lk (lk d4))))) hmA rfl
          (EVs.cons (EV.ifExp (b := bit e.1 192) (p := .str (rowOf sp e).1) (ET.cmp (EV.bin (EV.bin (EV.local rfl rfl) EV.cint (Bi.divC (by decide) (by decide))) EV.cint (Bi.mod_int (by decide))) EV.cint Bi.eq_int rfl)
            (fun hb => EV.of_eq EV.cstr (by unfold rowOf; rw [hb]; rfl)) (fun hb => EV.of_eq EV.cstr (by unfold rowOf; rw [hb]; rfl)))
            (EVs.cons (EV.local rfl rfl) EVs.nil))
          hA (add_ok hA G hc hm hh hlen (plain_name sp e) R.pv) (Nat.le_refl 2) rfl rfl (by decide) rfl rfl (EX.nil ⟨dn ++ [e], rs, by rw [d1]; simp, by simp, by rw [hend]; rfl, (lk (lk (lk (lk d4)))), (lk (lk (lk (lk d5))))⟩))
      · have hv : valOf sp e.2 = (rowOf sp e).2 := by unfold rowOf upIf; rw [hb]; rfl
        rw [hv]
        refine EX.cons (EX1.methM (M₁ := []) (M₂ := []) (ps := [.str (rowOf sp e).1, .str (rowOf sp e).2]) (EV.local rfl (lk (lk (lk d4)))) hmA rfl
          (EVs.cons (EV.ifExp (b := bit e.1 192) (p := .str (rowOf sp e).1) (ET.cmp (EV.bin (EV.bin (EV.local rfl rfl) EV.cint (Bi.divC (by decide) (by decide))) EV.cint (Bi.mod_int (by decide))) EV.cint Bi.eq_int rfl)
            (fun hb => EV.of_eq EV.cstr (by unfold rowOf; rw [hb]; rfl)) (fun hb => EV.of_eq EV.cstr (by unfold rowOf; rw [hb]; rfl)))
            (EVs.cons (EV.local rfl rfl) EVs.nil))
          hA (add_ok hA G hc hm hh hlen (plain_name sp e) R.pv) (Nat.le_refl 2) rfl rfl (by decide) rfl rfl (EX.nil ⟨dn ++ [e], rs, by rw [d1]; simp, by simp, by rw [hend]; rfl, (lk (lk (lk d4))), (lk (lk (lk d5)))⟩))
  · rintro V' M' ⟨dn, rs, d1, d2, rfl, d4, d5⟩
    have hrs : rs = [] := by
      have := congrArg List.length d2
      rw [d1] at this
      simp at this
      exact this
    subst hrs
    rw [List.append_nil] at d1
    subst d1
    exact EX.cons (EX1.retView (EV.local rfl d4) (.inr (.inr ⟨Cl, Lr, _, rfl, List.mem_singleton.mpr rfl, rfl⟩)) (.inl rfl))
end Mine

/-! F2j -/
namespace Mine
open PySem PySem.W PySem.Calls PyProof.Rows PySem.Challenge PySem.Builtin
set_option Elab.async false
set_option maxRecDepth 100000
set_option maxHeartbeats 4000000

theorem isT_ok {prog : Program} {w : World} {mg mb : Str → Option Value} {K : List (Addr × Obj)} {f : Addr} {mod code : Value} {t : Tok} (hd : IsDef K f (fdOf "ISTERMINAL" (parts pw_re0170_02 62) .none mod code)) (hg : mg "NT_OFFSET" = some (.int 256 t)) (i : Int) :
    FnOk prog w mg mb K f [.int i] [] (.bool (decide (i < 256))) 1 := by
  refine FnOk.of_body (names := ["x"]) hd rfl ?_ (by decide) rfl ⟨[], fun _ => rfl, List.nodup_nil⟩ ?_ ?_
  · intro vs hv
    match vs, hv with
    | [a], _ => rfl
  · intro L x hx
    rw [List.mem_singleton.mp hx]
    exact .inl rfl
  · intro A L
    exact EX.cons (EX1.ret (EV.cmp (EV.local rfl rfl) (EV.gint hg rfl) Bi.lt_int rfl) (.inl rfl))

def partS (D : List (Str × PV)) (p : Str) : Str := if (D.lookup p).isSome then (" " ++ p) ++ " " else Txt.lower p
structure PieceOk (p : Str) : Prop where
  ne : 0 < p.length
  z : p.length ≤ 1000
  lo : Str.tooLong (Txt.lower p).length = false
theorem tok_of {D : List (Str × PV)} (hDv : ∀ e ∈ D, ∃ i : Int, e.2 = .int i ∧ i < 256) (p : Str) (c : Nat) : ∃ i : Int, (D.lookup p).getD (.int (256 + (c : Int))) = .int i ∧ decide (i < 256) = (D.lookup p).isSome := by
  cases h : D.lookup p with
  | none => exact ⟨_, rfl, decide_eq_false (by omega)⟩
  | some v =>
    obtain ⟨i, e, hi⟩ := hDv (p, v) (mem_of_lookup h)
    exact ⟨i, e, decide_eq_true hi⟩
theorem rowsfn_ok {prog : Program} {w : World} {mg mb : Str → Option Value} {K : List (Addr × Obj)} {f fG fc fP fT ae : Addr} {mod code modG codeG mod' code' modP codeP modT codeT : Value} {an tn av tv Cl : Addr} {tt : Tok} {D : List (Str × PV)} (hd : IsDef K f (fdOf "_law_rows" (parts pw_re0170_02 67) .none mod code)) (G : HdrG mg K an tn av tv)
    (hG : IsDef K fG (fdOf "Headers.get_all" (methOf pw_re0170_02 7 7) .none modG codeG)) (hmG : Meth K Cl "get_all" fG)
    (hc : IsDef K fc (fdOf "Headers._convert_string_type" (methOf pw_re0170_02 7 1) .none mod' code')) (hm : Meth K Cl "_convert_string_type" fc) (hh : HdrCls K Cl)
    (hP : IsDef K fP (fdOf "_law_pieces" (parts pw_re0170_02 66) .none modP codeP)) (hgP : mg "_law_pieces" = some (.ref fP))
    (hT : IsDef K fT (fdOf "ISTERMINAL" (parts pw_re0170_02 62) .none modT codeT)) (hgT : mg "ISTERMINAL" = some (.ref fT)) (hNT : mg "NT_OFFSET" = some (.int 256 tt))
    (hge : mg "EXACT_TOKEN_TYPES" = some (.ref ae)) (hD : GDict w.params K ae D) (hDv : ∀ e ∈ D, ∃ i : Int, e.2 = .int i ∧ i < 256) (hlen : mg "len" = none) (hord : mg "ord" = none)
    {rows : List (Str × Str)} {n : Str} (hnS : n = Str.ofString "S") (hn : Str.tooLong (Txt.lower n).length = false) (hp : Plain (Txt.lower n)) (hr : ∀ r ∈ rows, Str.tooLong (Txt.lower r.1).length = false) (hl : rows.length ≤ 1000)
    {vals : List Str} (hv : (rows.filter fun r => Txt.lower r.1 == Txt.lower n).map (·.2) = vals) (hvz : ∀ v ∈ vals, v.length ≤ 1000) (hpc : ∀ v ∈ vals, ∀ p ∈ piecesFrom D v v.length 0, PieceOk p) :
    FnOk prog w mg mb K f [.inst Cl (.list (rows.map rowPV))] [] (.list (vals.map fun v => .list (((piecesFrom D v v.length 0).map (partS D)).map .str))) 3 := by
  refine FnOk.of_body (names := ["rules"]) hd rfl ?_ (by decide) rfl ⟨[], fun _ => rfl, List.nodup_nil⟩ ?_ ?_
  · intro vs hv
    match vs, hv with
    | [a], _ => rfl
  · intro L x hx
    rw [List.mem_singleton.mp hx]
    exact .inl rfl
  intro A L
  have hvl : vals.length ≤ 1000 := by rw [← hv, List.length_map]; exact Nat.le_trans (List.length_filter_le _ _) hl
  have hvals : (rows.filter fun r => Txt.lower r.1 == Txt.lower n).map (fun r => PV.str r.2) = vals.map .str := by rw [← hv, List.map_map]; rfl
  refine EX.cons (EX1.newList (.inl rfl) fun ra => ?_)
  refine EX.cons (EX1.for (fun done V' M' => ∃ dn rs : List Str, vals = dn ++ rs ∧ done = dn.map .str ∧ M' = [(ra, .list (dn.map fun v => .list (((piecesFrom D v v.length 0).map (partS D)).map .str)))] ∧ vat V' "rows" = some (.at ra)) rfl
    (It.list (EV.of_eq (EV.methI (EV.local rfl rfl) hmG rfl (EVs.cons (EV.of_eq EV.cstr (congrArg PV.str hnS.symm)) EVs.nil) KwOk.nil hG (getall_ok hG G hc hm hh hn hp hr hl) (Nat.le_refl 2) rfl rfl (by decide)) (congrArg PV.list hvals))) ⟨[], vals, rfl, rfl, rfl, rfl⟩ ?_ ?_ (fun _ => rfl))
  · rintro done p rest V' M' hit ⟨dn, rs, d1, rfl, rfl, d4⟩
    rw [d1] at hit
    cases rs with
    | nil =>
      exfalso
      have := congrArg List.length hit
      simp at this
    | cons v rs =>
      have hpv : p = .str v := by
        rw [List.map_append, List.map_cons] at hit
        exact ((List.append_cancel_left hit) |> List.cons.inj).1.symm
      subst hpv
      have hvin : v ∈ vals := by rw [d1]; simp
      have hvz' := hvz v hvin
      refine EX.cons (EX1.newList (.inl rfl) fun rw' => ?_)
      refine EX.cons (EX1.for (fun done V3 M3 => ∃ pd ps : List Str, piecesFrom D v v.length 0 = pd ++ ps ∧ done = pd.map .str ∧ M3 = [(rw', .list ((pd.map (partS D)).map .str)), (ra, .list (dn.map fun v => .list (((piecesFrom D v v.length 0).map (partS D)).map .str)))] ∧ vat V3 "rows" = some (.at ra) ∧ vat V3 "row" = some (.at rw')) rfl
        (It.list (EV.callF (EV.gref hgP rfl) rfl (EVs.cons (EV.local rfl rfl) EVs.nil) hP (pieces_ok hP hge hD hlen (by omega)) (by decide : 1 ≤ 2))) ⟨[], _, rfl, rfl, rfl, lk (lk d4), rfl⟩ ?_ ?_ (fun _ => rfl))
      · rintro done p rest V3 M3 hit3 ⟨pd, ps, q1, rfl, rfl, q4, q5⟩
        rw [q1] at hit3
        cases ps with
        | nil =>
          exfalso
          have := congrArg List.length hit3
          simp at this
        | cons pc ps =>
          have hpp : p = .str pc := by
            rw [List.map_append, List.map_cons] at hit3
            exact ((List.append_cancel_left hit3) |> List.cons.inj).1.symm
          subst hpp
          have P := hpc v hvin pc (by rw [q1]; simp)
          have hpdl : pd.length ≤ 1000 := by
            have h1 := pieces_len (D := D) (x := v) v.length 0
            rw [q1, List.length_append] at h1
            omega
          obtain ⟨i, hi1, hi2⟩ := tok_of hDv pc ((Txt.charAt pc 0).getD 0)
          have hs1 : Str.length (Str.ofString " ") = 1 := by decide +kernel
          have hadd : ∀ a b : Str, (a ++ b).length = a.length + b.length := fun a b => by
            show (a.cps ++ b.cps).size = _; rw [Array.size_append]; rfl
          refine EX.cons (EX1.ite (b := (D.lookup pc).isSome) (ET.of_eq (ET.val (EV.callF (EV.gref hgT rfl) rfl (EVs.cons (EV.of_eq (EV.meth (EV.gat hge rfl) rfl (EVs.cons (EV.local rfl rfl) (EVs.cons (EV.bin EV.cint (EV.callB (EV.builtin rfl hord (by decide +kernel) (by decide)) rfl (EVs.cons (EV.sub (EV.local rfl rfl) EV.cint (Ix.strOk (by decide) (by have := P.ne; omega) (by have := P.z; omega))) EVs.nil) Bn.ord) Bi.add_int) EVs.nil)) mth_get (Ty.gdict hD) (Bn.get2_gdict hD) rfl rfl (by decide)) hi1) EVs.nil) hT (isT_ok hT hNT i) (by decide : 1 ≤ 2)) Tr.bool rfl) hi2) (fun hb => ?_) (fun hb => ?_))
          · refine EX.cons (EX1.appendG (M₁ := []) (M₂ := [(ra, _)]) (EV.local rfl (lk q5)) rfl (EV.bin (EV.bin EV.cstr (EV.local rfl rfl) (Bi.add_str (by rw [hs1]; have := P.z; exact le_size (by omega)))) EV.cstr (Bi.add_str (by rw [hadd, hs1]; have := P.z; exact le_size (by omega)))) (by rw [List.length_map, List.length_map]; exact le_size (by omega)) rfl rfl rfl rfl ?_)
            refine EX.nil (EX.nil ⟨pd ++ [pc], ps, by rw [q1]; simp, by simp, ?_, lk q4, lk q5⟩)
            rw [List.map_append, List.map_append]
            unfold partS
            rw [List.map_singleton, hb]
            rfl
          · refine EX.cons (EX1.appendG (M₁ := []) (M₂ := [(ra, _)]) (EV.local rfl (lk q5)) rfl (EV.meth (EV.local rfl rfl) rfl EVs.nil mth_lower Ty.str (Bn.lower P.lo) rfl rfl (by decide)) (by rw [List.length_map, List.length_map]; exact le_size (by omega)) rfl rfl rfl rfl ?_)
            refine EX.nil (EX.nil ⟨pd ++ [pc], ps, by rw [q1]; simp, by simp, ?_, lk q4, lk q5⟩)
            rw [List.map_append, List.map_append]
            unfold partS
            rw [List.map_singleton, hb]
            rfl
      · rintro V3 M3 ⟨pd, ps, q1, q2, rfl, q4, q5⟩
        have hps : ps = [] := by
          have := congrArg List.length q2
          rw [q1] at this
          simp at this
          exact this
        subst hps
        rw [List.append_nil] at q1
        subst q1
        have hdl : dn.length ≤ 1000 := by
          have := congrArg List.length d1
          rw [List.length_append] at this
          omega
        refine XT.giveUp (M₁ := []) (V' := (Str.ofString "row", .list (((piecesFrom D v v.length 0).map (partS D)).map .str)) :: V3) ?_ (fun y p e => ?_)
        · refine EX.cons (EX1.appendG (M₁ := []) (M₂ := []) (EV.local rfl (lk q4)) rfl (EV.local rfl rfl) (by rw [List.length_map]; exact le_size (by omega)) rfl rfl rfl rfl ?_)
          exact EX.nil ⟨dn ++ [v], rs, by rw [d1]; simp, by simp, by simp, lk q4⟩
        · rw [lookup_cons_of] at e
          by_cases q : y = Str.ofString "row"
          · subst q
            rw [if_pos rfl] at e
            cases e
            exact .inr (.inl ⟨q5, rfl⟩)
          · rw [if_neg q] at e; exact .inl e
  · rintro V' M' ⟨dn, rs, d1, d2, rfl, d4⟩
    have hrs : rs = [] := by
      have := congrArg List.length d2
      rw [d1] at this
      simp at this
      exact this
    subst hrs
    rw [List.append_nil] at d1
    subst d1
    exact EX.cons (EX1.retOwn (EV.local rfl d4) (List.mem_singleton.mpr rfl) (.inl rfl))
end Mine

/-! PlainT2 -/
namespace Mine
open PySem PySem.W PySem.Calls PyProof.Rows PySem.Builtin PySem.Builtin.Str PySem.StrLaws
set_option Elab.async false
set_option maxRecDepth 100000

def exactL : List (List Nat × Int) := [([33], 54), ([33, 61], 28), ([37], 24), ([37, 61], 40), ([38], 19), ([38, 61], 41), ([40], 7), ([41], 8), ([42], 16), ([42, 42], 35), ([42, 42, 61], 46), ([42, 61], 38), ([43], 14), ([43, 61], 36), ([44], 12), ([45], 15), ([45, 61], 37), ([45, 62], 51), ([46], 23), ([46, 46, 46], 52), ([47], 17), ([47, 47], 47), ([47, 47, 61], 48), ([47, 61], 39), ([58], 11), ([58, 61], 53), ([59], 13), ([60], 20), ([60, 60], 33), ([60, 60, 61], 44), ([60, 61], 29), ([61], 22), ([61, 61], 27), ([62], 21), ([62, 61], 30), ([62, 62], 34), ([62, 62, 61], 45), ([64], 49), ([64, 61], 50), ([91], 9), ([93], 10), ([94], 32), ([94, 61], 43), ([123], 25), ([124], 18), ([124, 61], 42), ([125], 26), ([126], 31)]
def exactD : List (Str × PV) := exactL.map fun e => (ofL e.1, .int e.2)
theorem exact_vals : ∀ e ∈ exactD, ∃ i : Int, e.2 = .int i ∧ i < 256 := by
  have h : exactL.all (fun e => decide (e.2 < 256)) = true := by decide +kernel
  intro e he
  obtain ⟨x, hx, rfl⟩ := List.mem_map.mp he
  exact ⟨x.2, rfl, of_decide_eq_true (List.all_eq_true.mp h x hx)⟩

theorem ofL_inj {a b : List Nat} : ofL a = ofL b ↔ a = b := by
  constructor
  · intro h; have := congrArg (fun s : Str => s.cps.toList) h; simpa using this
  · rintro rfl; rfl
theorem look_exact (r : List Nat) : exactD.lookup (ofL r) = (exactL.lookup r).map .int := by
  unfold exactD
  induction exactL with
  | nil => rfl
  | cons e l ih =>
    rw [List.map_cons, lookup_cons_of, ih]
    obtain ⟨k, v⟩ := e
    by_cases q : r = k
    · subst q; rw [if_pos rfl]; simp
    · rw [if_neg (by rw [ofL_inj]; exact q), List.lookup_cons, (by simpa using q : (r == k) = false)]
def one1 : List Nat := [33, 37, 38, 40, 41, 42, 43, 44, 45, 46, 47, 58, 59, 60, 61, 62, 64, 91, 93, 94, 123, 124, 125, 126]
def two1 : List (Nat × Nat) := [(33, 61), (37, 61), (38, 61), (42, 42), (42, 61), (43, 61), (45, 61), (45, 62), (47, 47), (47, 61), (58, 61), (60, 60), (60, 61), (61, 61), (62, 61), (62, 62), (64, 61), (94, 61), (124, 61)]
def three1 : List (Nat × Nat × Nat) := [(42, 42, 61), (46, 46, 46), (47, 47, 61), (60, 60, 61), (62, 62, 61)]
def tkL : List Nat → Bool
  | [a] => one1.any fun x => Nat.beq x a
  | [a, b] => two1.any fun x => Nat.beq x.1 a && Nat.beq x.2 b
  | [a, b, c] => three1.any fun x => Nat.beq x.1 a && (Nat.beq x.2.1 b && Nat.beq x.2.2 c)
  | _ => false
theorem tk_mem (r : List Nat) : tkL r = true ↔ r ∈ exactL.map (·.1) := by
  have h1 : (exactL.map (·.1)).all tkL = true := by decide +kernel
  have h2 : one1.all (fun a => (exactL.map (·.1)).contains [a]) = true := by decide +kernel
  have h3 : two1.all (fun x => (exactL.map (·.1)).contains [x.1, x.2]) = true := by decide +kernel
  have h4 : three1.all (fun x => (exactL.map (·.1)).contains [x.1, x.2.1, x.2.2]) = true := by decide +kernel
  constructor
  · intro h
    unfold tkL at h
    split at h
    · obtain ⟨x, hx, e⟩ := List.any_eq_true.mp h
      rw [← Nat.eq_of_beq_eq_true e]
      exact List.contains_iff_mem.mp (List.all_eq_true.mp h2 x hx)
    · obtain ⟨x, hx, e⟩ := List.any_eq_true.mp h
      rw [Bool.and_eq_true] at e
      rw [← Nat.eq_of_beq_eq_true e.1, ← Nat.eq_of_beq_eq_true e.2]
      exact List.contains_iff_mem.mp (List.all_eq_true.mp h3 x hx)
    · obtain ⟨x, hx, e⟩ := List.any_eq_true.mp h
      rw [Bool.and_eq_true, Bool.and_eq_true] at e
      rw [← Nat.eq_of_beq_eq_true e.1, ← Nat.eq_of_beq_eq_true e.2.1, ← Nat.eq_of_beq_eq_true e.2.2]
      exact List.contains_iff_mem.mp (List.all_eq_true.mp h4 x hx)
    · cases h
  · exact fun h => List.all_eq_true.mp h1 r h
theorem look_mem {β : Type} (l : List (List Nat × β)) (r : List Nat) : (l.lookup r).isSome = true ↔ r ∈ l.map (·.1) := by
  induction l with
  | nil => simp
  | cons e l ih =>
    obtain ⟨k, v⟩ := e
    rw [List.lookup_cons, List.map_cons, List.mem_cons]
    by_cases q : r = k
    · subst q; simp
    · rw [(by simpa using q : (r == k) = false)]
      simp only [q, false_or]
      exact ih
theorem tk_exact (r : List Nat) : (exactD.lookup (ofL r)).isSome = tkL r := by
  rw [look_exact]
  have : ((exactL.lookup r).map PV.int).isSome = (exactL.lookup r).isSome := by cases exactL.lookup r <;> rfl
  rw [this, Bool.eq_iff_iff, look_mem, tk_mem]
theorem slice_idx (l : List Nat) (p n : Nat) : strSliceIndices (some (p : Int)) (some ((p : Int) + n)) 1 l.length = List.range' (min p l.length) (min (p + n) l.length - min p l.length) := by
  unfold strSliceIndices sliceRange
  simp only [show (1 : Int) > 0 by decide, if_true]
  rw [if_neg (by omega : ¬ ((p : Int) < 0)), if_neg (by omega : ¬ ((p : Int) + n < 0))]
  have ea : max 0 (min (p : Int) l.length) = ((min p l.length : Nat) : Int) := by omega
  have eb : max 0 (min ((p : Int) + n) l.length) = ((min (p + n) l.length : Nat) : Int) := by omega
  rw [ea, eb]
  generalize min p l.length = a
  generalize min (p + n) l.length = b
  rw [List.range'_eq_map_range]
  have ec : (if (a : Int) < (b : Int) then ((b : Int) - a + 1 - 1) / 1 else 0).toNat = b - a := by split <;> omega
  rw [ec]
  exact List.map_congr_left fun k _ => by omega
theorem pick_range (l : List Nat) : ∀ (k a : Nat), a + k ≤ l.length → (List.range' a k).filterMap (l.toArray[·]?) = (l.drop a).take k
  | 0, a, _ => by simp
  | k + 1, a, h => by
    have ha : a < l.length := by omega
    rw [List.range'_succ, List.filterMap_cons]
    have e : l.toArray[a]? = some l[a] := by simp [ha]
    rw [e, pick_range l k (a + 1) (by omega), List.drop_eq_getElem_cons ha, List.take_succ_cons]
theorem cut_ofL (l : List Nat) (p n : Nat) : cut (ofL l) p n = ofL ((l.drop p).take n) := by
  unfold cut Txt.slice
  have hl : (ofL l).length = l.length := by simp [Str.length]
  rw [hl, slice_idx]
  have hp := pick_range l (min (p + n) l.length - min p l.length) (min p l.length) (by omega)
  have key : (l.drop (min p l.length)).take (min (p + n) l.length - min p l.length) = (l.drop p).take n := by
    by_cases h : p ≤ l.length
    · rw [Nat.min_eq_left h]
      by_cases h2 : p + n ≤ l.length
      · rw [Nat.min_eq_left h2]; congr 1; omega
      · rw [List.take_of_length_le (i := min (p + n) l.length - p) (by rw [List.length_drop]; omega), List.take_of_length_le (by rw [List.length_drop]; omega)]
    · rw [List.drop_of_length_le (i := p) (by omega), List.drop_of_length_le (by omega)]; simp
  split
  · rename_i h
    simp only [Bool.and_eq_true, beq_iff_eq, List.length_range'] at h
    have h2 := h.2
    have hb : min (p + n) l.length = l.length := by omega
    have ha : min p l.length = 0 := by omega
    rw [← key, ha, hb]; simp
  · rw [← key, ← hp]
def szL (r : List Nat) : Nat := if tkL (r.take 3) then 3 else if tkL (r.take 2) then 2 else 1
def piecesL : Nat → List Nat → List (List Nat)
  | 0, _ => []
  | n + 1, r => if r = [] then [] else r.take (szL r) :: piecesL n (r.drop (szL r))

theorem szFrom_L (l : List Nat) (p : Nat) : szFrom exactD (ofL l) p 3 = szL (l.drop p) := by
  unfold szFrom szFrom szFrom
  rw [cut_ofL, cut_ofL, tk_exact, tk_exact, szL]
  cases tkL (List.take 3 (l.drop p)) <;> cases tkL (List.take 2 (l.drop p)) <;> simp
theorem pieces_L (l : List Nat) : ∀ (n p : Nat), piecesFrom exactD (ofL l) n p = (piecesL n (l.drop p)).map ofL
  | 0, _ => rfl
  | n + 1, p => by
    unfold piecesFrom piecesL
    have hl : (ofL l).length = l.length := by simp [Str.length]
    rw [hl]
    by_cases h : p < l.length
    · rw [if_pos h, if_neg (by intro q; have := congrArg List.length q; rw [List.length_drop] at this; simp at this; omega), szFrom_L, cut_ofL, pieces_L l n, List.drop_drop, List.map_cons]
    · rw [if_neg h, if_pos (List.drop_of_length_le (by omega))]; rfl
def upc (c : Nat) : Nat := if 97 ≤ c ∧ c ≤ 122 then c - 32 else c
def loc (c : Nat) : Nat := if 65 ≤ c ∧ c ≤ 90 then c + 32 else c
/-- the signs -/
def sigC : Nat → List Nat
  | 0 => [43] | 1 => [45] | 2 => [42, 42] | 3 => [47, 47] | 4 => [124] | 5 => [126] | 6 => [45, 62] | _ => [33, 61]
def letters : List (List Nat) := [[112], [113], [115], [80], [81], [83]]
def wordsT : List (List Nat) := (List.range 8).map sigC ++ [[112], [113], [115]]
theorem up_word : ∀ x ∈ wordsT, Txt.upper (ofL x) = ofL (x.map upc) := by
  have h : wordsT.all (fun x => Txt.upper (ofL x) == ofL (x.map upc)) = true := by decide +kernel
  exact fun x hx => beq_iff_eq.mp (List.all_eq_true.mp h x hx)
theorem lo_letter : ∀ x ∈ letters, Txt.lower (ofL x) = ofL (x.map loc) := by
  have h : letters.all (fun x => Txt.lower (ofL x) == ofL (x.map loc)) = true := by decide +kernel
  exact fun x hx => beq_iff_eq.mp (List.all_eq_true.mp h x hx)
theorem ofL_app (a b : List Nat) : ofL (a ++ b) = ofL a ++ ofL b := by
  apply Str.ext'
  apply Array.toList_inj.mp
  show (a ++ b).toArray.toList = (a.toArray ++ b.toArray).toList
  simp
theorem up_words : ∀ (w : List (List Nat)), (∀ x ∈ w, x ∈ wordsT) → Txt.upper (ofL w.flatten) = ofL (w.map (List.map upc)).flatten
  | [], _ => by decide +kernel
  | x :: w, h => by
    rw [List.flatten_cons, ofL_app, PySem.W.KOpn.upper_app, up_word x (h x List.mem_cons_self), up_words w (fun y hy => h y (List.mem_cons_of_mem _ hy)), List.map_cons, List.flatten_cons, ofL_app]
def upW (b : Bool) (x : List Nat) : List Nat := if b then x.map upc else x
theorem upIf_words (b : Bool) {w : List (List Nat)} (h : ∀ x ∈ w, x ∈ wordsT) : upIf b (ofL w.flatten) = ofL (w.map (upW b)).flatten := by
  unfold upIf
  cases b
  · show ofL w.flatten = _
    have : w.map (upW false) = w := by
      rw [show upW false = (fun x => x) from rfl]; simp
    rw [this]
  · show Txt.upper _ = _
    rw [up_words w h]; rfl
def partL (r : List Nat) : List Nat := if tkL r then tokL r else r.map loc
theorem part_L {r : List Nat} (h : (tkL r || letters.contains r) = true) : partS exactD (ofL r) = ofL (partL r) := by
  unfold partS partL
  rw [tk_exact]
  cases ht : tkL r with
  | true =>
    rw [if_pos rfl, if_pos rfl]
    have e : Str.ofString " " = ofL [32] := by decide +kernel
    rw [e, ← ofL_app, ← ofL_app]; rfl
  | false =>
    rw [ht, Bool.false_or] at h
    rw [if_neg (by decide), if_neg (by decide)]
    exact lo_letter r (List.contains_iff_mem.mp h)
def outL (x : List Nat) : List Nat := if letters.contains x then x else tokL x
def chkL (w : List (List Nat)) (b : Bool) : Bool :=
  let t := (w.map (upW b)).flatten
  let ps := piecesL t.length t
  (ps.map partL == w.map outL) && ps.all (fun r => (tkL r || letters.contains r) && !r.isEmpty && Nat.ble r.length 1000) && t.all (fun c => Nat.ble 32 c && Nat.ble c 126) && Nat.ble t.length 100
theorem too_small {n : Nat} (h : n ≤ 1000000) : PySem.Builtin.Str.tooLong n = false := by
  unfold PySem.Builtin.Str.tooLong
  have e2 : (sizeLine : Nat) ≥ 1000000 := by decide +kernel
  simp only [decide_eq_false_iff_not, Nat.not_lt]
  omega
structure Tokd (w : List (List Nat)) (b : Bool) : Prop where
  parts : (piecesFrom exactD (upIf b (ofL w.flatten)) (upIf b (ofL w.flatten)).length 0).map (partS exactD) = w.map fun x => ofL (outL x)
  ok : ∀ p ∈ piecesFrom exactD (upIf b (ofL w.flatten)) (upIf b (ofL w.flatten)).length 0, PieceOk p
  plain : Plain (upIf b (ofL w.flatten))
  len : (upIf b (ofL w.flatten)).length ≤ 100
theorem tokd {w : List (List Nat)} {b : Bool} (hw : ∀ x ∈ w, x ∈ wordsT) (h : chkL w b = true) : Tokd w b := by
  unfold chkL at h
  simp only [Bool.and_eq_true, beq_iff_eq, List.all_eq_true, Nat.ble_eq] at h
  obtain ⟨⟨⟨h1, h2⟩, h3⟩, h4⟩ := h
  have e := upIf_words b hw
  generalize (w.map (upW b)).flatten = t at *
  have hl : (ofL t).length = t.length := by simp [Str.length]
  have hp : piecesFrom exactD (ofL t) (ofL t).length 0 = (piecesL t.length t).map ofL := by rw [hl, pieces_L]; rfl
  rw [← e] at hp hl
  have hl' : (ofL t).length = t.length := by simp [Str.length]
  refine ⟨?_, ?_, ?_, ?_⟩
  · rw [e] at hp ⊢
    have h5 : (w.map fun x => ofL (outL x)) = ((piecesL t.length t).map partL).map ofL := by rw [h1, List.map_map]; rfl
    rw [hp, h5, List.map_map, List.map_map]
    refine List.map_congr_left fun r hr => ?_
    exact part_L (h2 r hr).1.1
  · rw [e] at hp ⊢
    rw [hp]
    intro p hpm
    obtain ⟨r, hr, rfl⟩ := List.mem_map.mp hpm
    obtain ⟨⟨_, a⟩, b⟩ := h2 r hr
    have hrl : (ofL r).length = r.length := by simp [Str.length]
    refine ⟨?_, by omega, ?_⟩
    · rw [hrl]
      exact List.length_pos_iff.mpr (by intro q; rw [q] at a; cases a)
    · refine too_small ?_
      have := PyProof.Rows.len_lower (ofL r)
      omega
  · rw [e]
    exact ⟨fun c hc => by have := h3 c (by simpa using hc); omega, by omega⟩
  · rw [e]; omega
/-- bodies of up to three parts -/
def wordsU : List (List Nat) := (List.range 8).map sigC ++ [[115]]
def bodies3 : List (List (List Nat)) := [] :: (wordsU.map (fun a => [a]) ++ (wordsU.flatMap (fun a => wordsU.map fun b => [a, b]) ++ wordsU.flatMap fun a => wordsU.flatMap fun b => wordsU.map fun c => [a, b, c]))
theorem chk3 : (bodies3.all fun w => chkL w false && chkL w true) = true := by decide +kernel
theorem wordsU_in : ∀ x ∈ wordsU, x ∈ wordsT := by decide
theorem bodies3_mem {w : List (List Nat)} (h : ∀ x ∈ w, x ∈ wordsU) (hl : w.length ≤ 3) : w ∈ bodies3 := by
  unfold bodies3
  match w, h, hl with
  | [], _, _ => exact List.mem_cons_self
  | [a], h, _ => exact List.mem_cons_of_mem _ (List.mem_append_left _ (List.mem_map.mpr ⟨a, h a (by simp), rfl⟩))
  | [a, b], h, _ => exact List.mem_cons_of_mem _ (List.mem_append_right _ (List.mem_append_left _ (List.mem_flatMap.mpr ⟨a, h a (by simp), List.mem_map.mpr ⟨b, h b (by simp), rfl⟩⟩)))
  | [a, b, c], h, _ => exact List.mem_cons_of_mem _ (List.mem_append_right _ (List.mem_append_right _ (List.mem_flatMap.mpr ⟨a, h a (by simp), List.mem_flatMap.mpr ⟨b, h b (by simp), List.mem_map.mpr ⟨c, h c (by simp), rfl⟩⟩⟩)))
end Mine

/-! F2k -/
namespace Mine
open PySem PySem.W PySem.Calls PyProof.Rows PySem.Challenge PySem.Builtin
set_option Elab.async false
set_option maxRecDepth 100000
set_option maxHeartbeats 4000000

abbrev encS (ss : List (List Nat)) : Str := ofL (encL ss)
abbrev textsPV (T : List (List (List Nat))) : List PV := T.map fun ss => .str (encS ss)
/-- a part of a rule: a sign or a name -/
inductive Sy where
  | t (s : List Nat)
  | n (c : Nat)
def Sy.str : Sy → Str
  | .t s => ofL (tokL s)
  | .n c => ⟨#[c]⟩
def SyOk : Sy → Prop
  | .t s => Sg s ∧ s.length ≤ 2
  | .n d => d = 115
abbrev synPV (row : List Sy) : PV := .list (row.map fun y => .str y.str)
def putW : List Sy → List (List Nat) → List (List Nat) → List (List Nat)
  | [], _, _ => []
  | .t s :: r, inner, others => s :: putW r inner others
  | .n _ :: r, inner, others => inner ++ putW r others others
theorem encS_append (a b : List (List Nat)) : encS (a ++ b) = encS a ++ encS b := by
  apply Str.ext'
  apply Array.toList_inj.mp
  show encL (a ++ b) = (((encL a).toArray ++ (encL b).toArray : Array Nat)).toList
  rw [encL_append]; simp
theorem encS_one (s : List Nat) : encS [s] = ofL (tokL s) := by simp [encS, encL]
theorem str_s : Str.ofString "s" = (⟨#[115]⟩ : Str) := by decide +kernel
theorem tok_ne_s (s : List Nat) : ofL (tokL s) ≠ (⟨#[115]⟩ : Str) := fun h => by
  have := congrArg (fun s : Str => s.cps.toList.length) h
  simp [tokL] at this
theorem put_ok {prog : Program} {w : World} {mg mb : Str → Option Value} {K : List (Addr × Obj)} {f : Addr} {mod code : Value} (hd : IsDef K f (fdOf "_law_put" (parts pw_re0170_02 68) .none mod code))
    {row : List Sy} (hrow : ∀ y ∈ row, SyOk y) {inner others : List (List Nat)} (hz : (encL (putW row inner others)).length ≤ 100000) :
    FnOk prog w mg mb K f [synPV row, .str (encS inner), .str (encS others)] [] (.str (encS (putW row inner others))) 1 := by
  refine FnOk.of_body (names := ["row", "inner", "others"]) hd rfl ?_ (by decide) rfl ⟨[], fun _ => rfl, List.nodup_nil⟩ ?_ ?_
  · intro vs hv
    match vs, hv with
    | [a, b, c], _ => rfl
  · intro L x hx
    simp only [List.mem_cons, List.not_mem_nil, or_false] at hx
    rcases hx with rfl | rfl | rfl <;> exact .inl rfl
  intro A L
  have hnil : Str.ofString "" = encS [] := by decide +kernel
  have hlen : ∀ l : List (List Nat), Str.length (encS l) = (encL l).length := fun l => by simp [Str.length]
  refine EX.cons (EX1.assign (pv := .str (encS [])) (.inl rfl) (EV.of_eq EV.cstr (congrArg PV.str hnil)) rfl ?_)
  refine EX.cons (EX1.for (fun done V' M' => M' = [] ∧ ∃ (pd ps : List Sy) (acc inn : List (List Nat)), row = pd ++ ps ∧ done = (pd.map fun y => PV.str y.str) ∧ acc ++ putW ps inn others = putW row inner others ∧ vat V' "text" = some (.str (encS acc)) ∧ vat V' "inner" = some (.str (encS inn)) ∧ vat V' "others" = some (.str (encS others))) rfl
    (It.list (EV.local rfl rfl)) ⟨rfl, [], row, [], inner, rfl, rfl, rfl, rfl, rfl, rfl⟩ ?_ ?_ (fun _ => rfl))
  · rintro done p rest V' M' hit ⟨rfl, pd, ps, acc, inn, d1, rfl, d3, d4, d5, d6⟩
    rw [d1] at hit
    cases ps with
    | nil =>
      exfalso
      have := congrArg List.length hit
      simp at this
    | cons y ps =>
      have hp : p = PV.str y.str := by
        rw [List.map_append, List.map_cons] at hit
        exact ((List.append_cancel_left hit) |> List.cons.inj).1.symm
      subst hp
      have hy : SyOk y := hrow y (by rw [d1]; simp)
      have hb : (encL (acc ++ putW (y :: ps) inn others)).length ≤ 100000 := by rw [d3]; exact hz
      cases y with
      | n c =>
        have hc : c = 115 := hy
        subst hc
        have h3 : (acc ++ inn) ++ putW ps others others = putW row inner others := by rw [List.append_assoc]; exact d3
        have hsz : Str.length (encS acc) + Str.length (encS inn) ≤ sizeLine := by
          rw [hlen, hlen]
          have e : acc ++ putW (.n 115 :: ps) inn others = (acc ++ inn) ++ putW ps others others := (List.append_assoc ..).symm
          rw [e, encL_append, encL_append, List.length_append, List.length_append] at hb
          exact le_size (by omega)
        refine EX.cons (EX1.ite (b := true) (ET.of_eq (ET.cmp (EV.local rfl rfl) EV.cstr Bi.eq_str rfl) (by rw [str_s]; exact beq_self_eq_true _)) (fun _ => ?_) (fun h => nomatch h))
        refine EX.cons (EX1.aug rfl (lk d4) (EV.local rfl (lk d5)) (Bi.iadd_str hsz) ?_)
        refine EX.cons (EX1.assign (.inl rfl) (EV.local rfl (lk (lk d6))) rfl ?_)
        refine EX.nil (EX.nil ⟨rfl, pd ++ [.n 115], ps, acc ++ inn, others, by rw [d1]; simp, by simp, h3, ?_, rfl, lk (lk (lk d6))⟩)
        exact congrArg (fun z => some (PV.str z)) (encS_append acc inn).symm
      | t s =>
        have h3 : (acc ++ [s]) ++ putW ps inn others = putW row inner others := by rw [List.append_assoc]; exact d3
        have hsz : Str.length (encS acc) + Str.length (ofL (tokL s)) ≤ sizeLine := by
          rw [← encS_one, hlen, hlen]
          have e : acc ++ putW (.t s :: ps) inn others = (acc ++ [s]) ++ putW ps inn others := (List.append_assoc acc [s] _).symm
          rw [e, encL_append, encL_append, List.length_append, List.length_append] at hb
          exact le_size (by omega)
        refine EX.cons (EX1.ite (b := false) (ET.of_eq (ET.cmp (EV.local rfl rfl) EV.cstr Bi.eq_str rfl) (by rw [str_s]; exact beq_eq_false_iff_ne.mpr (tok_ne_s s))) (fun h => nomatch h) (fun _ => ?_))
        refine EX.cons (EX1.aug rfl (lk d4) (EV.local rfl rfl) (Bi.iadd_str hsz) ?_)
        refine EX.nil (EX.nil ⟨rfl, pd ++ [.t s], ps, acc ++ [s], inn, by rw [d1]; simp, by simp, h3, ?_, lk (lk d5), lk (lk d6)⟩)
        refine congrArg (fun z => some (PV.str z)) (Eq.trans ?_ (encS_append acc [s]).symm)
        rw [encS_one]; rfl
  · rintro V' M' ⟨rfl, pd, ps, acc, inn, d1, d2, d3, d4, d5, d6⟩
    have hps : ps = [] := by
      have := congrArg List.length d2
      rw [d1] at this
      simp at this
      exact this
    subst hps
    rw [show acc ++ putW [] inn others = acc from List.append_nil _] at d3
    subst d3
    exact EX.cons (EX1.ret (EV.local rfl d4) (.inl rfl))
end Mine

/-! F2l -/
namespace Mine
open PySem PySem.W PySem.Calls PyProof.Rows PySem.Challenge PySem.Builtin
set_option Elab.async false
set_option maxRecDepth 100000
set_option maxHeartbeats 4000000

/-- a word of at most n signs -/
structure WOk (n : Nat) (w : List (List Nat)) : Prop where
  l : w.length ≤ n
  s : ∀ s ∈ w, Sg s ∧ s.length ≤ 2
theorem WOk.mono {n m : Nat} {w : List (List Nat)} (h : WOk n w) (k : n ≤ m) : WOk m w := ⟨Nat.le_trans h.l k, h.s⟩
theorem WOk.nil {n : Nat} : WOk n [] := ⟨Nat.zero_le _, fun _ h => absurd h List.not_mem_nil⟩
theorem WOk.enc {n : Nat} {w : List (List Nat)} (h : WOk n w) : (encL w).length ≤ 4 * n := by
  obtain ⟨h1, h2⟩ := h
  refine Nat.le_trans ?_ (Nat.mul_le_mul_left 4 h1)
  clear h1
  induction w with
  | nil => exact Nat.le_refl _
  | cons s w ih =>
    have := ih fun x hx => h2 x (List.mem_cons_of_mem _ hx)
    have hs := (h2 s List.mem_cons_self).2
    rw [encL_cons, List.length_append, tok_len, List.length_cons]
    omega
theorem put_wok : ∀ {row : List Sy} {a b : Nat} {inner others : List (List Nat)}, (∀ y ∈ row, SyOk y) → WOk a inner → WOk b others → WOk (row.length + a + row.length * b) (putW row inner others)
  | [], _, _, _, _, _, _, _ => .nil
  | .t s :: r, a, b, inner, others, hr, ha, hb => by
    have ih := put_wok (row := r) (fun y hy => hr y (List.mem_cons_of_mem _ hy)) ha hb
    refine ⟨?_, fun x hx => ?_⟩
    · have := ih.l
      show (putW r inner others).length + 1 ≤ _
      rw [List.length_cons, Nat.succ_mul]; omega
    · rcases List.mem_cons.mp hx with rfl | q
      · exact hr _ List.mem_cons_self
      · exact ih.s x q
  | .n c :: r, a, b, inner, others, hr, ha, hb => by
    have ih := put_wok (row := r) (fun y hy => hr y (List.mem_cons_of_mem _ hy)) hb hb
    refine ⟨?_, fun x hx => ?_⟩
    · have := ih.l
      have := ha.l
      show (inner ++ putW r others others).length ≤ _
      rw [List.length_append, List.length_cons, Nat.succ_mul]; omega
    · rcases List.mem_append.mp hx with q | q
      · exact ha.s x q
      · exact ih.s x q
def isN : Sy → Bool
  | .t _ => false
  | .n _ => true
abbrev cntN (row : List Sy) : Nat := row.countP isN
def wrap1 (lines : List (List Sy)) (t : List (List Nat)) : List (List Nat) := lines.foldl (fun t row => putW row t []) t
def wrapN (lines : List (List Sy)) : Nat → List (List Nat) → List (List Nat)
  | 0, t => t
  | n + 1, t => wrap1 lines (wrapN lines n t)
abbrev exitsR (rows : List (List Sy)) : List (List (List Nat)) := (rows.filter fun r => cntN r == 0).map fun r => putW r [] []
abbrev linesR (rows : List (List Sy)) : List (List Sy) := rows.filter fun r => cntN r == 1
abbrev forksR (rows : List (List Sy)) : List (List Sy) := rows.filter fun r => decide (1 < cntN r)
abbrev turnsR (rows : List (List Sy)) : Nat := if (forksR rows).isEmpty then 3 else 1
abbrev sentsR (rows : List (List Sy)) : List (List (List Nat)) := (exitsR rows).map (wrapN (linesR rows) (turnsR rows))
structure RowsOk (rows : List (List Sy)) : Prop where
  l : rows.length ≤ 5
  r : ∀ row ∈ rows, row.length ≤ 3 ∧ ∀ y ∈ row, SyOk y
theorem put3 {rows : List (List Sy)} (h : RowsOk rows) {row : List Sy} (hr : row ∈ rows) {a b : Nat} {inner others : List (List Nat)} (ha : WOk a inner) (hb : WOk b others) : WOk (3 + a + 3 * b) (putW row inner others) := by
  obtain ⟨h1, h2⟩ := h.r row hr
  refine (put_wok h2 ha hb).mono ?_
  have := Nat.mul_le_mul_right b h1
  omega
theorem str_isS (y : Sy) (h : SyOk y) : (y.str == Str.ofString "s") = isN y := by
  rw [str_s]
  cases y with
  | t s => exact beq_eq_false_iff_ne.mpr (tok_ne_s s)
  | n c => have : c = 115 := h; subst this; exact beq_self_eq_true _
theorem count_s {row : List Sy} (h : ∀ y ∈ row, SyOk y) : (row.map Sy.str).countP (· == Str.ofString "s") = cntN row := by
  rw [List.countP_map]
  refine List.countP_congr fun y hy => ?_
  show (y.str == Str.ofString "s") = true ↔ isN y = true
  rw [str_isS y (h y hy)]
theorem any_s {row : List Sy} (h : ∀ y ∈ row, SyOk y) : (!((row.map Sy.str).any (· == Str.ofString "s"))) = (cntN row == 0) := by
  rw [← count_s h]
  generalize row.map Sy.str = l
  rw [Bool.eq_iff_iff, Bool.not_eq_true', beq_iff_eq, List.countP_eq_zero, List.any_eq_false]
theorem syn_eq (row : List Sy) : synPV row = .list ((row.map Sy.str).map .str) := by rw [List.map_map]; rfl
theorem joinL_nil2 : ∀ (l : List (List Nat)), joinL [] l = l.flatten
  | [] => rfl
  | [p] => by simp [joinL]
  | p :: q :: r => by rw [joinL, joinL_nil2 (q :: r), List.flatten_cons]; rfl
theorem join_none (l : List Str) : (Txt.join "" l).cps.toList = (l.map fun s => s.cps.toList).flatten := by
  have h := glued_ofL [] (l.map fun s => s.cps.toList)
  rw [joinL_nil2, List.map_map] at h
  have e : (ofL ∘ fun s : Str => s.cps.toList) = _root_.id := funext fun s => by cases s; rfl
  rw [e, List.map_id] at h
  rw [← h]
  have e2 : Str.ofString "" = ofL [] := by decide +kernel
  show (PySem.Builtin.Str.glued (Str.ofString "") l).cps.toList = _
  rw [e2]
theorem join_exit : ∀ {row : List Sy}, cntN row = 0 → Txt.join "" (row.map Sy.str) = encS (putW row [] [])
  | row, h => by
    apply Str.ext'
    apply Array.toList_inj.mp
    rw [join_none, List.map_map]
    show _ = encL (putW row [] [])
    induction row with
    | nil => rfl
    | cons y row ih =>
      cases y with
      | n c =>
        have h2 : List.countP isN (Sy.n c :: row) = 0 := h
        rw [List.countP_cons] at h2; simp [isN] at h2
      | t s =>
        have h2 : List.countP isN (Sy.t s :: row) = 0 := h
        have h' : cntN row = 0 := by rw [List.countP_cons] at h2; simpa [isN] using h2
        rw [List.map_cons, List.flatten_cons, ih h']
        show _ = encL (s :: putW row [] [])
        rw [encL_cons]; rfl
theorem joinFold {n : Nat} (l : List Str) : ∀ (acc : Nat), (∀ t ∈ l, t.length ≤ n) → l.foldl (fun a t => a + t.length + (Str.ofString "").length) acc ≤ acc + n * l.length := by
  have h0 : (Str.ofString "").length = 0 := by decide +kernel
  induction l with
  | nil => intro acc _; simp
  | cons t l ih =>
    intro acc h
    rw [List.foldl_cons, h0]
    have h1 := ih (acc + t.length + 0) fun u hu => h u (List.mem_cons_of_mem _ hu)
    have h2 := h t List.mem_cons_self
    rw [h0] at h1
    rw [List.length_cons, Nat.mul_succ]
    omega
theorem joinOk_small {texts : List Str} (h : ∀ t ∈ texts, t.length ≤ 100) (hl : texts.length ≤ 1000) : JoinOk "" texts = true := by
  have h1 := joinFold texts 0 h
  simp only [JoinOk, Bool.not_eq_true', List.foldl_toArray']
  unfold Str.tooLong
  have e2 : (sizeLine : Nat) ≥ 1000000 := by decide +kernel
  simp only [decide_eq_false_iff_not, Nat.not_lt]
  refine Nat.le_trans h1 ?_
  have : 100 * texts.length ≤ 100000 := by omega
  omega
theorem sy_len {y : Sy} (h : SyOk y) : y.str.length ≤ 4 := by
  cases y with
  | n c => show (#[c] : Array Nat).size ≤ 4; simp
  | t s =>
    have : (ofL (tokL s)).length = (tokL s).length := by simp [Str.length]
    show (ofL (tokL s)).length ≤ 4
    rw [this, tok_len]; have := h.2; omega
/-- what the comprehensions make of a row -/
def toS : PV → Str
  | .str s => s
  | _ => Str.ofString ""
def rowS : PV → List Str
  | .list l => l.map toS
  | _ => []
theorem rowS_syn (row : List Sy) : rowS (synPV row) = row.map Sy.str := by
  show (row.map fun y => PV.str y.str).map toS = _
  rw [List.map_map]; rfl
def keepE (p : PV) : Bool := !((rowS p).any (· == Str.ofString "s"))
def keepC (t : Int → Bool) (p : PV) : Bool := t ((rowS p).countP (· == Str.ofString "s"))
def joinE (p : PV) : PV := .str (Txt.join "" (rowS p))
theorem exits_pv {rows : List (List Sy)} (h : ∀ row ∈ rows, ∀ y ∈ row, SyOk y) : (((rows.map synPV).filter keepE).map joinE) = textsPV (exitsR rows) := by
  induction rows with
  | nil => rfl
  | cons r rows ih =>
    have hr := h r List.mem_cons_self
    have e : keepE (synPV r) = (cntN r == 0) := by unfold keepE; rw [rowS_syn, any_s hr]
    rw [List.map_cons, List.filter_cons, e]
    have ih := ih fun row hrow => h row (List.mem_cons_of_mem _ hrow)
    unfold exitsR at ih ⊢
    rw [List.filter_cons]
    cases hc : cntN r == 0 with
    | false => exact ih
    | true =>
      rw [if_pos rfl, if_pos rfl, List.map_cons, ih]
      show PV.str (Txt.join "" (rowS (synPV r))) :: _ = PV.str (encS (putW r [] [])) :: _
      rw [rowS_syn, join_exit (eq_of_beq hc)]
theorem keepC_pv {rows : List (List Sy)} (h : ∀ row ∈ rows, ∀ y ∈ row, SyOk y) (t : Int → Bool) : (((rows.map synPV).filter (keepC t)).map fun p => p) = (rows.filter fun r => t (cntN r)).map synPV := by
  rw [List.map_id']
  induction rows with
  | nil => rfl
  | cons r rows ih =>
    have hr := h r List.mem_cons_self
    have e : keepC t (synPV r) = t (cntN r) := by unfold keepC; rw [rowS_syn, count_s hr]
    rw [List.map_cons, List.filter_cons, List.filter_cons, e, ih fun row hrow => h row (List.mem_cons_of_mem _ hrow)]
    cases t (cntN r) <;> rfl
theorem lines_pv {rows : List (List Sy)} (h : ∀ row ∈ rows, ∀ y ∈ row, SyOk y) : (((rows.map synPV).filter (keepC fun i => i == 1)).map fun p => p) = (linesR rows).map synPV := by
  rw [keepC_pv h]
  congr 1
  refine List.filter_congr fun r _ => ?_
  rw [Bool.eq_iff_iff, beq_iff_eq, beq_iff_eq]; omega
theorem forks_pv {rows : List (List Sy)} (h : ∀ row ∈ rows, ∀ y ∈ row, SyOk y) : (((rows.map synPV).filter (keepC fun i => decide (i > 1))).map fun p => p) = (forksR rows).map synPV := by
  rw [keepC_pv h]
  congr 1
  refine List.filter_congr fun r _ => ?_
  rw [decide_eq_decide]; omega
/-- the words stay small -/
theorem exit_wok {rows : List (List Sy)} (h : RowsOk rows) : ∀ t ∈ exitsR rows, WOk 3 t := fun t ht => by
  obtain ⟨r, hr, rfl⟩ := List.mem_map.mp ht
  exact (put3 h (List.mem_filter.mp hr).1 (a := 0) (b := 0) .nil .nil).mono (by omega)
theorem wrap_wok {rows : List (List Sy)} (h : RowsOk rows) : ∀ (ls : List (List Sy)) {a : Nat} {t : List (List Nat)}, (∀ r ∈ ls, r ∈ rows) → WOk a t → WOk (a + 3 * ls.length) (wrap1 ls t)
  | [], _, _, _, ha => ha
  | r :: ls, a, t, hl, ha => by
    have h1 := put3 h (hl r List.mem_cons_self) ha (b := 0) .nil
    have h2 := wrap_wok h ls (fun x hx => hl x (List.mem_cons_of_mem _ hx)) h1
    exact h2.mono (by rw [List.length_cons]; omega)
theorem lines_in {rows : List (List Sy)} : ∀ r ∈ linesR rows, r ∈ rows := fun r hr => (List.mem_filter.mp hr).1
theorem lines_len {rows : List (List Sy)} (h : RowsOk rows) : (linesR rows).length ≤ 5 := Nat.le_trans (List.length_filter_le _ _) h.l
theorem wrapN_wok {rows : List (List Sy)} (h : RowsOk rows) : ∀ (n : Nat) {t : List (List Nat)}, WOk 3 t → WOk (3 + 15 * n) (wrapN (linesR rows) n t)
  | 0, _, ha => ha
  | n + 1, t, ha => by
    have h1 := wrapN_wok h n ha
    have h2 := wrap_wok h (linesR rows) lines_in h1
    exact h2.mono (by have := lines_len h; omega)
theorem sent_wok {rows : List (List Sy)} (h : RowsOk rows) : ∀ t ∈ sentsR rows, WOk 48 t := fun t ht => by
  obtain ⟨e, he, rfl⟩ := List.mem_map.mp ht
  refine (wrapN_wok h _ (exit_wok h e he)).mono ?_
  show 3 + 15 * turnsR rows ≤ 48
  unfold turnsR; split <;> omega
end Mine

/-! F2m -/
namespace Mine
open PySem PySem.W PySem.Calls PyProof.Rows PySem.Challenge PySem.Builtin
set_option Elab.async false
set_option maxRecDepth 100000
set_option maxHeartbeats 4000000

abbrev sentB : List Stmt := (parts pw_re0170_02 69).2.2.1
abbrev sentCx (prog : Program) (w : World) (mg mb : Str → Option Value) (K : List (Addr × Obj)) (mod code : Value) (A : Around) (L f : Addr) : Cx := calleeCx prog w mg mb K (fdOf "_law_sentences" (parts pw_re0170_02 69) .none mod code) A L f 1
abbrev varsS (rows : List (List Sy)) (a : Addr) : Vars := [(Str.ofString "sentences", .at a), (Str.ofString "forks", .list ((forksR rows).map synPV)), (Str.ofString "lines", .list ((linesR rows).map synPV)), (Str.ofString "exits", .list (textsPV (exitsR rows)))]
theorem sent_a {prog : Program} {w : World} {mg mb : Str → Option Value} {K : List (Addr × Obj)} {f fP : Addr} {mod code modP codeP : Value} {A : Around} {L : Addr} (hP : IsDef K fP (fdOf "_law_put" (parts pw_re0170_02 68) .none modP codeP)) (hgP : mg "_law_put" = some (.ref fP))
    (hrange : mg "range" = none) {rows : List (List Sy)} (hr : RowsOk rows) {Kc : Cont} (h : ∀ a, EX (sentCx prog w mg mb K mod code A L f) (varsS rows a) [(a, .list (textsPV (sentsR rows)))] (sentB.drop 5) Kc) :
    EX (sentCx prog w mg mb K mod code A L f) [(Str.ofString "rows", .list (rows.map synPV))] [] sentB Kc := by
  have hok : ∀ row ∈ rows, ∀ y ∈ row, SyOk y := fun row hrow => (hr.r row hrow).2
  have hrl : (rows.map synPV).length ≤ sizeLine := by rw [List.length_map]; exact le_size (by have := hr.l; omega)
  -- exits
  refine EX.cons ?_
  refine EX1.assignComp (items := rows.map synPV) (kp := keepE) (f := joinE) (Vc := []) ?_ ?_ ?_ ?_ ?_ ?_ ?_ ?_
  · exact .inl rfl
  · rfl
  · refine ⟨?_, ?_, rfl, ?_, rfl, ?_⟩
    · intro p hp hk
      simp only [List.mem_cons, List.not_mem_nil, or_false] at hp
      rcases hp with rfl | rfl <;> first | (cases hk; done) | rfl
    · intro y hy hk
      simp only [List.mem_cons, List.not_mem_nil, or_false] at hy
      rcases hy with rfl | rfl <;> cases hk
    · intro y hy hk
      simp only [List.mem_cons, List.not_mem_nil, or_false] at hy
      rcases hy with rfl | rfl <;> first | (cases hk; done) | rfl
    · intro y pv ee; cases ee
  · exact It.list (EV.local rfl rfl)
  · exact hrl
  · intro Ca p hp
    obtain ⟨row, hrow, rfl⟩ := List.mem_map.mp hp
    have hs := syn_eq row
    refine ⟨CT.one (ET.of_eq (ET.cmp EV.cstr (EV.of_eq (EV.local rfl rfl) hs) Bi.notIn_list rfl) (by unfold keepE; rw [rowS_syn])), fun _ => ?_⟩
    refine EV.of_eq (EV.meth EV.cstr rfl (EVs.cons (EV.of_eq (EV.local rfl rfl) hs) EVs.nil) mth_join Ty.str (Bn.join (joinOk_small (fun t ht => ?_) ?_)) rfl rfl (by decide)) (by unfold joinE; rw [rowS_syn])
    · obtain ⟨y, hy, rfl⟩ := List.mem_map.mp ht
      have := sy_len (hok row hrow y hy); omega
    · rw [List.length_map]; have := (hr.r row hrow).1; omega
  · exact fun _ => rfl
  rw [exits_pv hok]
  -- lines
  refine EX.cons ?_
  refine EX1.assignComp (items := rows.map synPV) (kp := keepC fun i => i == 1) (f := fun p => p) (Vc := []) ?_ ?_ ?_ ?_ ?_ ?_ ?_ ?_
  · exact .inl rfl
  · rfl
  · refine ⟨?_, ?_, rfl, ?_, rfl, ?_⟩
    · intro p hp hk
      simp only [List.mem_cons, List.not_mem_nil, or_false] at hp
      rcases hp with rfl | rfl <;> first | (cases hk; done) | rfl
    · intro y hy hk
      simp only [List.mem_cons, List.not_mem_nil, or_false] at hy
      rcases hy with rfl | rfl <;> cases hk
    · intro y hy hk
      simp only [List.mem_cons, List.not_mem_nil, or_false] at hy
      rcases hy with rfl | rfl <;> first | (cases hk; done) | rfl
    · intro y pv ee; cases ee
  · exact It.list (EV.local rfl rfl)
  · exact hrl
  · intro Ca p hp
    obtain ⟨row, hrow, rfl⟩ := List.mem_map.mp hp
    exact ⟨CT.one (ET.of_eq (ET.cmp (EV.meth (EV.of_eq (EV.local rfl rfl) (syn_eq row)) rfl (EVs.cons EV.cstr EVs.nil) mth_count_list Ty.list Bn.count_list rfl rfl (by decide)) EV.cint Bi.eq_int rfl) (by unfold keepC; rw [rowS_syn])), fun _ => EV.local rfl rfl⟩
  · exact fun _ => rfl
  rw [lines_pv hok]
  -- forks
  refine EX.cons ?_
  refine EX1.assignComp (items := rows.map synPV) (kp := keepC fun i => decide (i > 1)) (f := fun p => p) (Vc := []) ?_ ?_ ?_ ?_ ?_ ?_ ?_ ?_
  · exact .inl rfl
  · rfl
  · refine ⟨?_, ?_, rfl, ?_, rfl, ?_⟩
    · intro p hp hk
      simp only [List.mem_cons, List.not_mem_nil, or_false] at hp
      rcases hp with rfl | rfl <;> first | (cases hk; done) | rfl
    · intro y hy hk
      simp only [List.mem_cons, List.not_mem_nil, or_false] at hy
      rcases hy with rfl | rfl <;> cases hk
    · intro y hy hk
      simp only [List.mem_cons, List.not_mem_nil, or_false] at hy
      rcases hy with rfl | rfl <;> first | (cases hk; done) | rfl
    · intro y pv ee; cases ee
  · exact It.list (EV.local rfl rfl)
  · exact hrl
  · intro Ca p hp
    obtain ⟨row, hrow, rfl⟩ := List.mem_map.mp hp
    exact ⟨CT.one (ET.of_eq (ET.cmp (EV.meth (EV.of_eq (EV.local rfl rfl) (syn_eq row)) rfl (EVs.cons EV.cstr EVs.nil) mth_count_list Ty.list Bn.count_list rfl rfl (by decide)) EV.cint Bi.gt_int rfl) (by unfold keepC; rw [rowS_syn])), fun _ => EV.local rfl rfl⟩
  · exact fun _ => rfl
  rw [forks_pv hok]
  have hfl : ((forksR rows).map synPV).length ≤ sizeLine := by rw [List.length_map]; exact le_size (by have h1 : (forksR rows).length ≤ rows.length := List.length_filter_le _ _; have := hr.l; omega)
  have hnil : Str.ofString "" = encS [] := by decide +kernel
  refine EX.cons (EX1.newList (.inl rfl) fun a => ?_)
  let J : Vars → Prop := fun V' => vat V' "sentences" = some (.at a) ∧ vat V' "forks" = some (.list ((forksR rows).map synPV)) ∧ vat V' "lines" = some (.list ((linesR rows).map synPV)) ∧ vat V' "exits" = some (.list (textsPV (exitsR rows)))
  refine EX.cons (EX1.for (fun done V' M' => J V' ∧ ∃ dn rs, exitsR rows = dn ++ rs ∧ done = textsPV dn ∧ M' = [(a, .list (textsPV (dn.map (wrapN (linesR rows) (turnsR rows)))))]) rfl (It.list (EV.local rfl rfl)) ⟨⟨rfl, rfl, rfl, rfl⟩, [], exitsR rows, rfl, rfl, rfl⟩ ?_ ?_ (fun _ => rfl))
  · rintro done p rest V' M' hit ⟨⟨j1, j2, j3, j4⟩, dn, rs, d1, rfl, rfl⟩
    rw [d1] at hit
    cases rs with
    | nil =>
      exfalso
      have := congrArg List.length hit
      simp at this
    | cons t rs =>
      have hp : p = .str (encS t) := by
        simp only [textsPV, List.map_append, List.map_cons] at hit
        exact ((List.append_cancel_left hit) |> List.cons.inj).1.symm
      subst hp
      have ht : WOk 3 t := exit_wok hr t (by rw [d1]; simp)
      have hdl : dn.length ≤ 5 := by
        have h1 := congrArg List.length d1
        have h2 : (exitsR rows).length ≤ 5 := by rw [List.length_map]; exact Nat.le_trans (List.length_filter_le _ _) hr.l
        rw [List.length_append] at h1; omega
      -- turns
      refine EX.cons (EX1.for (fun done V2 M2 => J V2 ∧ M2 = [(a, .list (textsPV (dn.map (wrapN (linesR rows) (turnsR rows)))))] ∧ vat V2 "text" = some (.str (encS (wrapN (linesR rows) done.length t)))) rfl
        (It.range1 (n := (turnsR rows : Nat)) (EV.builtin rfl hrange (by decide +kernel) (by decide)) (EV.ifExp (ET.val (EV.local rfl (lk j2)) (Tr.list hfl) rfl) (fun hb => EV.of_eq EV.cint ?_) (fun hb => EV.of_eq EV.cint ?_)) rfl (by omega) ?_)
        ⟨⟨lk j1, lk j2, lk j3, lk j4⟩, rfl, rfl⟩ ?_ ?_ (fun _ => rfl))
      · have : (forksR rows).isEmpty = false := by cases hq : forksR rows with
          | nil => rw [hq] at hb; cases hb
          | cons _ _ => rfl
        unfold turnsR; rw [this]; rfl
      · have : (forksR rows).isEmpty = true := by cases hq : forksR rows with
          | nil => rfl
          | cons _ _ => rw [hq] at hb; cases hb
        unfold turnsR; rw [this]; rfl
      · show ((turnsR rows : Nat) : Int) < _
        unfold turnsR; split <;> decide
      · rintro done2 p2 rest2 V2 M2 hit2 ⟨⟨j1, j2, j3, j4⟩, rfl, j5⟩
        obtain ⟨_, hk⟩ := up_split hit2
        have hk3 : done2.length < 3 := by
          rw [Int.toNat_natCast] at hk
          have : turnsR rows ≤ 3 := by unfold turnsR; split <;> omega
          omega
        have ht2 : WOk 33 (wrapN (linesR rows) done2.length t) := (wrapN_wok hr _ ht).mono (by omega)
        generalize hu : wrapN (linesR rows) done2.length t = u at *
        refine EX.cons (EX1.for (fun done V3 M3 => J V3 ∧ M3 = [(a, .list (textsPV (dn.map (wrapN (linesR rows) (turnsR rows)))))] ∧ ∃ pd ps, linesR rows = pd ++ ps ∧ done = pd.map synPV ∧ vat V3 "text" = some (.str (encS (wrap1 pd u)))) rfl (It.list (EV.local rfl (lk j3)))
          ⟨⟨lk j1, lk j2, lk j3, lk j4⟩, rfl, [], linesR rows, rfl, rfl, lk j5⟩ ?_ ?_ (fun _ => rfl))
        · rintro done3 p3 rest3 V3 M3 hit3 ⟨⟨j1, j2, j3, j4⟩, rfl, pd, ps, q1, rfl, q3⟩
          rw [q1] at hit3
          cases ps with
          | nil =>
            exfalso
            have := congrArg List.length hit3
            simp at this
          | cons row ps =>
            have hp : p3 = synPV row := by
              rw [List.map_append, List.map_cons] at hit3
              exact ((List.append_cancel_left hit3) |> List.cons.inj).1.symm
            subst hp
            have hrow : row ∈ rows := lines_in row (by rw [q1]; simp)
            have hpl : pd.length ≤ 5 := by
              have h1 := congrArg List.length q1
              have h2 := lines_len hr
              rw [List.length_append] at h1; omega
            have hw := wrap_wok hr pd (fun x hx => lines_in x (by rw [q1]; exact List.mem_append_left _ hx)) ht2
            have hw2 := put3 hr hrow hw (b := 0) .nil
            have hstep : putW row (wrap1 pd u) [] = wrap1 (pd ++ [row]) u := by unfold wrap1; rw [List.foldl_append]; rfl
            rw [← hstep.symm] at hstep
            refine EX.cons (EX1.assign (.inl rfl) (EV.callF (EV.gref hgP rfl) rfl (EVs.cons (EV.local rfl rfl) (EVs.cons (EV.local rfl (lk q3)) (EVs.cons (EV.of_eq EV.cstr (congrArg PV.str hnil)) EVs.nil))) hP (put_ok hP (hok row hrow) (Nat.le_trans hw2.enc (by omega))) (Nat.le_refl 1)) rfl ?_)
            refine EX.nil ⟨⟨lk (lk j1), lk (lk j2), lk (lk j3), lk (lk j4)⟩, rfl, pd ++ [row], ps, by rw [q1]; simp, by simp, ?_⟩
            have : wrap1 (pd ++ [row]) u = putW row (wrap1 pd u) [] := by unfold wrap1; rw [List.foldl_append]; rfl
            rw [this]; rfl
        · rintro V3 M3 ⟨hj, rfl, pd, ps, q1, q2, q3⟩
          have hps : ps = [] := by
            have := congrArg List.length q2
            rw [q1] at this
            simp at this
            exact this
          subst hps
          rw [List.append_nil] at q1
          subst q1
          refine EX.nil ⟨hj, rfl, ?_⟩
          rw [List.length_append, List.length_singleton, q3, ← hu]; rfl
      · rintro V2 M2 ⟨⟨j1, j2, j3, j4⟩, rfl, j5⟩
        rw [upFrom_len, Int.toNat_natCast] at j5
        refine EX.cons (EX1.appendG (M₁ := []) (M₂ := []) (EV.local rfl j1) rfl (EV.local rfl j5) (by rw [List.length_map, List.length_map]; exact le_size (by omega)) rfl rfl rfl rfl ?_)
        refine EX.nil ⟨⟨j1, j2, j3, j4⟩, dn ++ [t], rs, by rw [d1]; simp, by simp [textsPV], by simp [textsPV]⟩
  · rintro V' M' ⟨⟨j1, j2, j3, j4⟩, dn, rs, d1, d2, rfl⟩
    have hrs : rs = [] := by
      have := congrArg List.length d2
      rw [d1] at this
      simp at this
      exact this
    subst hrs
    rw [List.append_nil] at d1
    refine XT.names (V' := varsS rows a) ?_ ?_
    · have := h a
      unfold sentsR at this
      rw [d1] at this
      exact this
    · intro y p e
      rw [lookup_cons_of] at e
      by_cases q : y = Str.ofString "sentences"
      · subst q; rw [if_pos rfl] at e; cases e; exact j1
      rw [if_neg q, lookup_cons_of] at e
      by_cases q : y = Str.ofString "forks"
      · subst q; rw [if_pos rfl] at e; cases e; exact j2
      rw [if_neg q, lookup_cons_of] at e
      by_cases q : y = Str.ofString "lines"
      · subst q; rw [if_pos rfl] at e; cases e; exact j3
      rw [if_neg q, lookup_cons_of] at e
      by_cases q : y = Str.ofString "exits"
      · subst q; rw [if_pos rfl] at e; cases e; exact j4
      rw [if_neg q] at e; cases e
end Mine

/-! F2n -/
namespace Mine
open PySem PySem.W PySem.Calls PyProof.Rows PySem.Challenge PySem.Builtin
set_option Elab.async false
set_option maxRecDepth 100000
set_option maxHeartbeats 4000000

theorem pick_rangeL {α : Type} (l : List α) : ∀ (k a : Nat), a + k ≤ l.length → (List.range' a k).filterMap (l[·]?) = (l.drop a).take k
  | 0, a, _ => by simp
  | k + 1, a, h => by
    have ha : a < l.length := by omega
    rw [List.range'_succ, List.filterMap_cons, List.getElem?_eq_getElem ha]
    dsimp only
    rw [pick_rangeL l k (a + 1) (by omega), List.drop_eq_getElem_cons ha, List.take_succ_cons]
theorem pick_tail {α : Type} (l : List α) (h : l ≠ []) : pickL l (some 1) none none = l.tail := by
  have hl : 0 < l.length := List.length_pos_iff.mpr h
  have e : sliceRange (sliceBounds (some 1) none none l.length).1 (sliceBounds (some 1) none none l.length).2.1 (sliceBounds (some 1) none none l.length).2.2 = List.range' 1 (l.length - 1) := by
    have e1 : (sliceBounds (some 1) none none l.length).2.2 = 1 := rfl
    have e2 : (sliceBounds (some 1) none none l.length).2.1 = (l.length : Int) := rfl
    have e3 : (sliceBounds (some 1) none none l.length).1 = 1 := by
      unfold sliceBounds
      simp
      omega
    rw [e1, e2, e3, List.range'_eq_map_range]
    unfold sliceRange
    have ec : (if (1 : Int) > 0 then if (1 : Int) < (l.length : Int) then ((l.length : Int) - 1 + 1 - 1) / 1 else 0 else if (1 : Int) > (l.length : Int) then ((1 : Int) - (l.length : Int) - 1 - 1) / (-1) else 0).toNat = l.length - 1 := by
      rw [if_pos (by decide)]; split <;> omega
    dsimp only
    rw [ec]
    exact List.map_congr_left fun k _ => by omega
  unfold pickL
  rw [e, pick_rangeL l (l.length - 1) 1 (by omega), List.take_of_length_le (by rw [List.length_drop]; omega), List.drop_one]
abbrev f0R (rows : List (List Sy)) : List Sy := (forksR rows).headD []
abbrev e0R (rows : List (List Sy)) : List (List Nat) := (exitsR rows).headD []
abbrev wholeA (rows : List (List Sy)) : List (List Nat) := (sentsR rows).tail.foldl (fun w t => putW (f0R rows) w t) ((sentsR rows).headD [])
abbrev wholeB (rows : List (List Sy)) : List (List Nat) := (forksR rows).foldl (fun w row => putW row w (e0R rows)) (wholeA rows)
def outR (rows : List (List Sy)) : List (List (List Nat)) := if (forksR rows).isEmpty then sentsR rows else [putW (f0R rows) (wholeB rows) (putW (f0R rows) (wholeB rows) (wholeB rows))]
theorem foldA_wok {rows : List (List Sy)} (h : RowsOk rows) (hf : f0R rows ∈ rows) : ∀ (ts : List (List (List Nat))) {a : Nat} {w : List (List Nat)}, (∀ t ∈ ts, WOk 48 t) → WOk a w → WOk (a + 147 * ts.length) (ts.foldl (fun w t => putW (f0R rows) w t) w)
  | [], _, _, _, ha => ha
  | t :: ts, a, w, ht, ha => by
    have h1 := put3 h hf ha (ht t List.mem_cons_self)
    have h2 := foldA_wok h hf ts (fun x hx => ht x (List.mem_cons_of_mem _ hx)) h1
    exact h2.mono (by rw [List.length_cons]; omega)
theorem foldB_wok {rows : List (List Sy)} (h : RowsOk rows) {e0 : List (List Nat)} (he : WOk 3 e0) : ∀ (rs : List (List Sy)) {a : Nat} {w : List (List Nat)}, (∀ r ∈ rs, r ∈ rows) → WOk a w → WOk (a + 12 * rs.length) (rs.foldl (fun w row => putW row w e0) w)
  | [], _, _, _, ha => ha
  | r :: rs, a, w, hr, ha => by
    have h1 := put3 h (hr r List.mem_cons_self) ha he
    have h2 := foldB_wok h he rs (fun x hx => hr x (List.mem_cons_of_mem _ hx)) h1
    exact h2.mono (by rw [List.length_cons]; omega)
theorem sent_ok {prog : Program} {w : World} {mg mb : Str → Option Value} {K : List (Addr × Obj)} {f fP : Addr} {mod code modP codeP : Value} (hd : IsDef K f (fdOf "_law_sentences" (parts pw_re0170_02 69) .none mod code)) (hP : IsDef K fP (fdOf "_law_put" (parts pw_re0170_02 68) .none modP codeP)) (hgP : mg "_law_put" = some (.ref fP))
    (hrange : mg "range" = none) {rows : List (List Sy)} (hr : RowsOk rows) (hex : exitsR rows ≠ []) : FnOk prog w mg mb K f [.list (rows.map synPV)] [] (.list (textsPV (outR rows))) 2 := by
  refine FnOk.of_body (names := ["rows"]) hd rfl ?_ (by decide) rfl ⟨[], fun _ => rfl, List.nodup_nil⟩ ?_ ?_
  · intro vs hv
    match vs, hv with
    | [a], _ => rfl
  · intro L x hx
    rw [List.mem_singleton.mp hx]
    exact .inl rfl
  intro A L
  refine sent_a hP hgP hrange hr fun a => ?_
  have hok : ∀ row ∈ rows, ∀ y ∈ row, SyOk y := fun row hrow => (hr.r row hrow).2
  have hfl5 : (forksR rows).length ≤ 5 := Nat.le_trans (List.length_filter_le _ _) hr.l
  have hel5 : (exitsR rows).length ≤ 5 := by rw [List.length_map]; exact Nat.le_trans (List.length_filter_le _ _) hr.l
  have hfl : ((forksR rows).map synPV).length ≤ sizeLine := by rw [List.length_map]; exact le_size (by omega)
  refine EX.cons (EX1.ite (ET.not (ET.val (EV.local rfl rfl) (Tr.list hfl) rfl)) (fun hb => ?_) (fun hb => EX.nil ?_))
  · refine EX.cons (EX1.retOwn (EV.local rfl rfl) (List.mem_singleton.mpr rfl) (.inl ?_))
    have : (forksR rows).isEmpty = true := by cases hq : forksR rows with
      | nil => rfl
      | cons _ _ => rw [hq] at hb; cases hb
    unfold outR; rw [if_pos this]
  have hne : (forksR rows).isEmpty = false := by cases hq : forksR rows with
    | nil => rw [hq] at hb; cases hb
    | cons _ _ => rfl
  obtain ⟨f0, fs, hfs⟩ : ∃ f0 fs, forksR rows = f0 :: fs := by
    cases hq : forksR rows with
    | nil => rw [hq] at hne; cases hne
    | cons x xs => exact ⟨x, xs, rfl⟩
  obtain ⟨e0, es, hes⟩ : ∃ e0 es, exitsR rows = e0 :: es := by
    cases hq : exitsR rows with
    | nil => exact absurd hq hex
    | cons x xs => exact ⟨x, xs, rfl⟩
  have hf0 : f0R rows = f0 := by unfold f0R; rw [hfs]; rfl
  have he0 : e0R rows = e0 := by unfold e0R; rw [hes]; rfl
  have hf0r : f0 ∈ rows := (List.mem_filter.mp (show f0 ∈ forksR rows by rw [hfs]; exact List.mem_cons_self)).1
  have he0w : WOk 3 e0 := exit_wok hr e0 (by rw [hes]; exact List.mem_cons_self)
  obtain ⟨s0, ss, hss⟩ : ∃ s0 ss, sentsR rows = s0 :: ss := by unfold sentsR; rw [hes]; exact ⟨_, _, rfl⟩
  have hsl5 : (sentsR rows).length ≤ 5 := by rw [List.length_map]; exact hel5
  have hsw := sent_wok hr
  refine XT.giveUp (M₁ := []) (V' := (Str.ofString "sentences", .list (textsPV (sentsR rows))) :: varsS rows a) ?_ (fun y p e => ?_)
  · refine EX.cons (EX1.assign (pv := .str (encS s0)) (.inl rfl) (EV.sub (EV.local rfl rfl) EV.cint (Ix.list (by decide) (by rw [hss]; rfl) (by decide))) rfl ?_)
    have gx : ((forksR rows).map synPV)[(0 : Int).toNat]? = some (synPV f0) := by rw [hfs]; rfl
    have ge : (textsPV (exitsR rows))[(0 : Int).toNat]? = some (.str (encS e0)) := by rw [hes]; rfl
    let J : Vars → Prop := fun V' => vat V' "forks" = some (.list ((forksR rows).map synPV)) ∧ vat V' "exits" = some (.list (textsPV (exitsR rows)))
    have hA : ∀ pd ps, sentsR rows = s0 :: (pd ++ ps) → WOk (48 + 147 * pd.length) (pd.foldl (fun w t => putW f0 w t) s0) := fun pd ps e => by
      have := foldA_wok hr (by rw [hf0]; exact hf0r) pd (a := 48) (w := s0) (fun t ht => hsw t (by rw [e]; simp [ht])) (hsw s0 (by rw [e]; simp))
      rwa [hf0] at this
    refine EX.cons (EX1.for (fun done V2 M2 => J V2 ∧ M2 = [] ∧ ∃ pd ps, ss = pd ++ ps ∧ done = textsPV pd ∧ vat V2 "whole" = some (.str (encS (pd.foldl (fun w t => putW f0 w t) s0)))) rfl
      (It.list (EV.of_eq (b := .list (textsPV ss)) (EV.sliceL (EV.local rfl rfl) (PartOf.one EV.cint) PartOf.nil PartOf.nil (by decide) (by rw [List.length_map]; exact le_size (by omega))) (by rw [pick_tail _ (by rw [hss]; exact fun q => nomatch q), hss]; rfl)))
      ⟨⟨rfl, rfl⟩, rfl, [], ss, rfl, rfl, rfl⟩ ?_ ?_ (fun _ => rfl))
    · rintro done p rest V2 M2 hit ⟨⟨j1, j2⟩, rfl, pd, ps, d1, rfl, d3⟩
      rw [d1] at hit
      cases ps with
      | nil =>
        exfalso
        have := congrArg List.length hit
        simp at this
      | cons t ps =>
        have hp : p = .str (encS t) := by
          simp only [textsPV, List.map_append, List.map_cons] at hit
          exact ((List.append_cancel_left hit) |> List.cons.inj).1.symm
        subst hp
        have hpl : pd.length ≤ 5 := by
          have h1 := congrArg List.length hss
          rw [d1, List.length_cons, List.length_append] at h1; omega
        have hw := hA pd (t :: ps) (by rw [hss, d1])
        have ht : WOk 48 t := hsw t (by rw [hss, d1]; simp)
        have hw2 := put3 hr hf0r hw ht
        refine EX.cons (EX1.assign (.inl rfl) (EV.callF (EV.gref hgP rfl) rfl (EVs.cons (EV.sub (EV.local rfl (lk j1)) EV.cint (Ix.list (by decide) gx (by decide))) (EVs.cons (EV.local rfl (lk d3)) (EVs.cons (EV.local rfl rfl) EVs.nil))) hP (put_ok hP (hok f0 hf0r) (Nat.le_trans hw2.enc (by omega))) (Nat.le_refl 1)) rfl ?_)
        refine EX.nil ⟨⟨lk (lk j1), lk (lk j2)⟩, rfl, pd ++ [t], ps, by rw [d1]; simp, by simp [textsPV], ?_⟩
        rw [List.foldl_append]; rfl
    · rintro V2 M2 ⟨⟨j1, j2⟩, rfl, pd, ps, d1, d2, d3⟩
      have hps : ps = [] := by
        have := congrArg List.length d2
        rw [d1] at this
        simp at this
        exact this
      subst hps
      rw [List.append_nil] at d1
      subst d1
      have hwA := hA ss [] (by rw [hss, List.append_nil])
      have hsl : ss.length ≤ 5 := by
        have h1 := congrArg List.length hss
        rw [List.length_cons] at h1; omega
      have hwA' : wholeA rows = ss.foldl (fun w t => putW f0 w t) s0 := by unfold wholeA; rw [hf0, hss]; rfl
      rw [← hwA'] at d3 hwA
      refine EX.cons (EX1.for (fun done V3 M3 => J V3 ∧ M3 = [] ∧ ∃ pd ps, forksR rows = pd ++ ps ∧ done = pd.map synPV ∧ vat V3 "whole" = some (.str (encS (pd.foldl (fun w row => putW row w e0) (wholeA rows))))) rfl
        (It.list (EV.local rfl j1)) ⟨⟨j1, j2⟩, rfl, [], forksR rows, rfl, rfl, d3⟩ ?_ ?_ (fun _ => rfl))
      · rintro done p rest V3 M3 hit ⟨⟨j1, j2⟩, rfl, pd, ps, q1, rfl, q3⟩
        rw [q1] at hit
        cases ps with
        | nil =>
          exfalso
          have := congrArg List.length hit
          simp at this
        | cons row ps =>
          have hp : p = synPV row := by
            rw [List.map_append, List.map_cons] at hit
            exact ((List.append_cancel_left hit) |> List.cons.inj).1.symm
          subst hp
          have hin : ∀ x ∈ pd, x ∈ rows := fun x hx => (List.mem_filter.mp (show x ∈ forksR rows by rw [q1]; exact List.mem_append_left _ hx)).1
          have hrow : row ∈ rows := (List.mem_filter.mp (show row ∈ forksR rows by rw [q1]; simp)).1
          have hpl : pd.length ≤ 5 := by
            have h1 := congrArg List.length q1
            rw [List.length_append] at h1; omega
          have hw := foldB_wok hr he0w pd hin hwA
          have hw2 := put3 hr hrow hw he0w
          refine EX.cons (EX1.assign (.inl rfl) (EV.callF (EV.gref hgP rfl) rfl (EVs.cons (EV.local rfl rfl) (EVs.cons (EV.local rfl (lk q3)) (EVs.cons (EV.sub (EV.local rfl (lk j2)) EV.cint (Ix.list (by decide) ge (by decide))) EVs.nil))) hP (put_ok hP (hok row hrow) (Nat.le_trans hw2.enc (by omega))) (Nat.le_refl 1)) rfl ?_)
          refine EX.nil ⟨⟨lk (lk j1), lk (lk j2)⟩, rfl, pd ++ [row], ps, by rw [q1]; simp, by simp, ?_⟩
          rw [List.foldl_append]; rfl
      · rintro V3 M3 ⟨⟨j1, j2⟩, rfl, pd, ps, q1, q2, q3⟩
        have hps : ps = [] := by
          have := congrArg List.length q2
          rw [q1] at this
          simp at this
          exact this
        subst hps
        rw [List.append_nil] at q1
        rw [← q1] at q3
        have hwB := foldB_wok hr he0w (forksR rows) (fun x hx => (List.mem_filter.mp hx).1) hwA
        have hwB' : wholeB rows = (forksR rows).foldl (fun w row => putW row w e0) (wholeA rows) := by unfold wholeB; rw [he0]
        rw [← hwB'] at q3 hwB
        have hX := put3 hr hf0r hwB hwB
        have hY := put3 hr hf0r hwB hX
        have hcall1 := put_ok (prog := prog) (w := w) (mg := mg) (mb := mb) hP (hok f0 hf0r) (inner := wholeB rows) (others := wholeB rows) (Nat.le_trans hX.enc (by omega))
        have hcall2 := put_ok (prog := prog) (w := w) (mg := mg) (mb := mb) hP (hok f0 hf0r) (inner := wholeB rows) (others := putW f0 (wholeB rows) (wholeB rows)) (Nat.le_trans hY.enc (by omega))
        refine EX.cons (EX1.ret (SN.list rfl (EVs.cons (EV.callF (EV.gref hgP rfl) rfl (EVs.cons (EV.sub (EV.local rfl j1) EV.cint (Ix.list (by decide) gx (by decide))) (EVs.cons (EV.local rfl q3) (EVs.cons (EV.callF (EV.gref hgP rfl) rfl (EVs.cons (EV.sub (EV.local rfl j1) EV.cint (Ix.list (by decide) gx (by decide))) (EVs.cons (EV.local rfl q3) (EVs.cons (EV.local rfl q3) EVs.nil))) hP hcall1 (Nat.le_refl 1)) EVs.nil))) hP hcall2 (Nat.le_refl 1)) EVs.nil) (by decide)).sv (.inl ?_))
        unfold outR
        rw [hne, hf0]; rfl
  · rw [lookup_cons_of] at e
    by_cases q : y = Str.ofString "sentences"
    · subst q
      rw [if_pos rfl] at e
      cases e
      exact .inr (.inl ⟨rfl, rfl⟩)
    · rw [if_neg q] at e; exact .inl e
end Mine

/-! F2o -/
namespace Mine
open PySem PySem.W PySem.Calls PyProof.Rows PySem.Challenge PySem.Builtin
set_option Elab.async false
set_option maxRecDepth 100000
set_option maxHeartbeats 4000000

/-- the spelling of the three signs -/
structure Spl (sp : List (Str × Str)) (sg : Nat → List Nat) : Prop where
  look : ∀ c, (c = 48 ∨ c = 49 ∨ c = 50) → (sp.lookup (⟨#[c]⟩ : Str)) = some (ofL (sg c))
  ok : ∀ c, Sg (sg c) ∧ (sg c).length ≤ 2
abbrev spPV' (sp : List (Str × Str)) : List (Str × PV) := sp.map fun e => (e.1, PV.str e.2)
theorem spPV_look {sp : List (Str × Str)} {s v : Str} (h : sp.lookup s = some v) : (spPV' sp).lookup s = some (.str v) := by
  induction sp with
  | nil => cases h
  | cons e sp ih =>
    obtain ⟨a, b⟩ := e
    rw [lookup_cons_of] at h
    show List.lookup s ((a, PV.str b) :: spPV' sp) = _
    rw [lookup_cons_of]
    by_cases q : s = a
    · rw [if_pos q] at h ⊢; cases h; rfl
    · rw [if_neg q] at h ⊢; exact ih h
def padPV (sg : Nat → List Nat) : PV → PV
  | .str s => .str (ofL (tokL (sg (s.cps.toList.headD 0))))
  | p => p
theorem pad_all (sg : Nat → List Nat) (l : List Nat) : (((l.map fun c => PV.str ⟨#[c]⟩).filter fun _ => true).map (padPV sg)) = (l.map fun c => ofL (tokL (sg c))).map .str := by
  rw [List.filter_eq_self.mpr (fun _ _ => rfl), List.map_map, List.map_map]; rfl
theorem pad_one (s : List Nat) : (Str.ofString " " ++ ofL s) ++ Str.ofString " " = ofL (tokL s) := by
  have e : Str.ofString " " = ofL [32] := by decide +kernel
  rw [e, ← ofL_app, ← ofL_app]; rfl
theorem pad_size {s : List Nat} (h : s.length ≤ 2) : Str.length (Str.ofString " ") + Str.length (ofL s) ≤ sizeLine ∧ Str.length (Str.ofString " " ++ ofL s) + Str.length (Str.ofString " ") ≤ sizeLine := by
  have e : Str.ofString " " = ofL [32] := by decide +kernel
  have h1 : Str.length (ofL [32]) = 1 := rfl
  have h2 : Str.length (ofL s) = s.length := by simp [Str.length]
  have h3 : Str.length (ofL [32] ++ ofL s) = 1 + s.length := by rw [← ofL_app]; simp [Str.length]; omega
  rw [e, h1, h2, h3]
  exact ⟨le_size (by omega), le_size (by omega)⟩
theorem pat_join (ss : List (List Nat)) : (Txt.join (Str.ofString "...") (ss.map fun s => ofL (tokL s))).cps.toList = joinL dots (ss.map tokL) := by
  have h := glued_ofL dots (ss.map tokL)
  rw [List.map_map] at h
  have e : Str.ofString "..." = ofL dots := by decide +kernel
  rw [e]; exact h
theorem joinL_snoc (y : List Nat) : ∀ (l : List (List Nat)) (p : List Nat), l ≠ [] → joinL y (l ++ [p]) = joinL y l ++ (y ++ p)
  | [], _, h => absurd rfl h
  | [q], p, _ => rfl
  | q :: r :: l, p, _ => by
    have ih := joinL_snoc y (r :: l) p (by simp)
    show q ++ (y ++ joinL y (r :: (l ++ [p]))) = (q ++ (y ++ joinL y (r :: l))) ++ (y ++ p)
    have : r :: (l ++ [p]) = (r :: l) ++ [p] := rfl
    rw [this, ih]; simp
theorem pat_want (ss : List (List Nat)) : ((Str.ofString "..." ++ Txt.join (Str.ofString "...") (ss.map fun s => ofL (tokL s))) ++ Str.ofString "...").cps.toList = wantL ss := by
  have e : (Str.ofString "...").cps.toList = dots := by rw [dots_cps]
  have hadd : ∀ a b : Str, (a ++ b).cps.toList = a.cps.toList ++ b.cps.toList := fun a b => by show (a.cps ++ b.cps).toList = _; simp
  rw [hadd, hadd, pat_join, e]
  unfold wantL
  by_cases h : ss = []
  · subst h; rfl
  · rw [if_neg h]
    have hne : ss.map tokL ≠ [] := fun q => h (List.map_eq_nil_iff.mp q)
    have h1 : joinL dots ([] :: (ss.map tokL ++ [[]])) = dots ++ joinL dots (ss.map tokL ++ [[]]) := by
      cases hq : ss.map tokL with
      | nil => exact absurd hq hne
      | cons a l => rfl
    rw [h1, joinL_snoc dots _ [] hne]; simp
theorem joinOk_dots {ss : List (List Nat)} (h : ∀ s ∈ ss, s.length ≤ 2) (hl : ss.length ≤ 1000) : JoinOk (Str.ofString "...") (ss.map fun s => ofL (tokL s)) = true := by
  have h3 : (Str.ofString "...").length = 3 := by decide +kernel
  have key : ∀ (l : List (List Nat)) (acc : Nat), (∀ s ∈ l, s.length ≤ 2) → (l.map fun s => ofL (tokL s)).foldl (fun a t => a + t.length + (Str.ofString "...").length) acc ≤ acc + 7 * l.length := by
    intro l
    induction l with
    | nil => intro acc _; simp
    | cons s l ih =>
      intro acc hs
      rw [List.map_cons, List.foldl_cons]
      have h1 := ih (acc + (ofL (tokL s)).length + (Str.ofString "...").length) fun u hu => hs u (List.mem_cons_of_mem _ hu)
      have h2 : (ofL (tokL s)).length = s.length + 2 := by rw [show (ofL (tokL s)).length = (tokL s).length by simp [Str.length], tok_len]
      have h4 := hs s List.mem_cons_self
      rw [h2, h3] at h1
      rw [h2, h3, List.length_cons]
      omega
  have h1 := key ss 0 h
  simp only [JoinOk, Bool.not_eq_true', List.foldl_toArray']
  unfold Str.tooLong
  have e2 : (sizeLine : Nat) ≥ 1000000 := by decide +kernel
  simp only [decide_eq_false_iff_not, Nat.not_lt]
  refine Nat.le_trans h1 ?_
  omega
/-- what lies in a sentence -/
theorem lies_ok {prog : Program} {w : World} {mg mb : Str → Option Value} {K : List (Addr × Obj)} {f fe : Addr} {mod code mod' code' : Value} {t : Tok} (hd : IsDef K f (fdOf "_law_lies" (parts pw_re0170_02 70) .none mod code))
    (hde : IsDef K fe (fdOf "_ellipsis_match" (parts pw_re0170_02 10) .none mod' code')) (hge : mg "_ellipsis_match" = some (.ref fe)) (hg : mg "ELLIPSIS_MARKER" = some (.str "..." t)) (hlen : mg "len" = none)
    {sp : List (Str × Str)} {sg : Nat → List Nat} (hsp : Spl sp sg) {T : List (List (List Nat))} {word : List Nat} (hT : ∀ ss ∈ T, (∀ s ∈ ss, Sg s) ∧ (encL ss).length ≤ 100000) (hw : ∀ c ∈ word, c = 48 ∨ c = 49 ∨ c = 50) (hwl : word.length ≤ 3) :
    FnOk prog w mg mb K f [.list (textsPV T), .str (ofL word), .dict (spPV' sp)] [] (.bool (T.any fun ts => (word.map sg).isSublist ts)) 2 := by
  refine FnOk.of_body (names := ["sentences", "word", "spelled"]) hd rfl ?_ (by decide) rfl ⟨["spelled"], fun _ => rfl, by decide⟩ ?_ ?_
  · intro vs hv
    match vs, hv with
    | [a, b, c], _ => rfl
  · intro L x hx
    simp only [List.mem_cons, List.not_mem_nil, or_false] at hx
    rcases hx with rfl | rfl | rfl
    · exact .inl rfl
    · exact .inl rfl
    · exact .inr ⟨rfl, rfl⟩
  intro A L
  have hss : ∀ s ∈ word.map sg, Sg s ∧ s.length ≤ 2 := fun s hs => by
    obtain ⟨c, _, rfl⟩ := List.mem_map.mp hs
    exact hsp.ok c
  have hpat := pat_want (word.map sg)
  have hjl := joinOk_dots (ss := word.map sg) (fun s hs => (hss s hs).2) (by rw [List.length_map]; omega)
  rw [List.map_map] at hjl
  have hwl2 := wantL_len (word.map sg)
  have henc : (encL (word.map sg)).length ≤ 12 := by
    have : WOk 3 (word.map sg) := ⟨by rw [List.length_map]; exact hwl, hss⟩
    exact this.enc
  have hadd : ∀ a b : Str, (a ++ b).length = a.length + b.length := fun a b => by
    show (a.cps ++ b.cps).size = _; rw [Array.size_append]; rfl
  have hplen : ((Str.ofString "..." ++ Txt.join (Str.ofString "...") (((word.map sg)).map fun s => ofL (tokL s))) ++ Str.ofString "...").length ≤ 54 := by
    have : ∀ a : Str, a.length = a.cps.toList.length := fun a => by simp [Str.length]
    rw [this, hpat]; omega
  rw [List.map_map] at hpat hplen
  simp only [Function.comp_def] at hpat hplen hjl
  have hpl2 := hplen
  rw [hadd, hadd] at hpl2
  refine EX.cons (EX1.assign (pv := .str ((Str.ofString "..." ++ Txt.join (Str.ofString "...") (word.map fun c => ofL (tokL (sg c)))) ++ Str.ofString "...")) (.inl rfl) (EV.bin (EV.bin EV.cstr (EV.meth EV.cstr rfl (EVs.cons (EV.of_eq (EV.comp (kp := fun _ => true) (f := padPV sg) (Vc := [(Str.ofString "spelled", .dict (spPV' sp))]) ?_ (It.str (EV.local rfl rfl)) ?_ ?_ (fun _ => rfl)) (congrArg PV.list (pad_all sg word))) EVs.nil) mth_join Ty.str (Bn.join hjl) rfl rfl (by decide)) (Bi.add_str ?_)) EV.cstr (Bi.add_str ?_)) rfl ?_)
  · refine ⟨?_, ?_, rfl, ?_, rfl, ?_⟩
    · intro p hp hk
      simp only [List.mem_cons, List.not_mem_nil, or_false] at hp
      rcases hp with rfl | rfl | rfl <;> first | (cases hk; done) | rfl
    · intro y hy hk
      simp only [List.mem_cons, List.not_mem_nil, or_false] at hy
      rcases hy with rfl | rfl | rfl <;> cases hk
    · intro y hy hk
      simp only [List.mem_cons, List.not_mem_nil, or_false] at hy
      rcases hy with rfl | rfl | rfl <;> first | (cases hk; done) | rfl
    · intro y pv ee
      rw [lookup_cons_of] at ee
      by_cases q : y = Str.ofString "spelled"
      · subst q
        rw [if_pos rfl] at ee
        cases ee
        exact ⟨rfl, rfl, rfl, rfl⟩
      · rw [if_neg q] at ee; cases ee
  · rw [List.length_map]; show word.length ≤ _; exact le_size (by omega)
  · intro Ca p hp
    obtain ⟨c, hc, rfl⟩ := List.mem_map.mp hp
    have hc' : c ∈ word := hc
    have hz := pad_size (hsp.ok c).2
    refine ⟨CT.nil, fun _ => ?_⟩
    exact EV.of_eq (EV.bin (EV.bin EV.cstr (EV.sub (EV.cell rfl rfl) (EV.local rfl rfl) (Ix.dict (spPV_look (hsp.look c (hw c hc'))))) (Bi.add_str hz.1)) EV.cstr (Bi.add_str hz.2)) (congrArg PV.str (pad_one (sg c)))
  · exact le_size (by omega)
  · rw [hadd]; exact le_size (by omega)
  refine EX.cons (EX1.for (fun done V' M' => M' = [] ∧ ∃ dn rest, T = dn ++ rest ∧ done = textsPV dn ∧ vat V' "pattern" = some (.str ((Str.ofString "..." ++ Txt.join (Str.ofString "...") (word.map fun c => ofL (tokL (sg c)))) ++ Str.ofString "...")) ∧ (dn.any fun ts => (word.map sg).isSublist ts) = false) rfl (It.list (EV.local rfl rfl)) ⟨rfl, [], T, rfl, rfl, rfl, rfl⟩ ?_ ?_ (fun _ => rfl))
  · rintro done p rest V' M' hit ⟨rfl, dn, rs, h1, rfl, h3, h4⟩
    cases rs with
    | nil =>
      have := congrArg List.length hit
      rw [h1] at this
      simp at this
    | cons ts xs =>
      have hp : p = .str (encS ts) := by
        rw [h1] at hit
        simp only [textsPV, List.map_append, List.map_cons] at hit
        exact ((List.append_cancel_left hit) |> List.cons.inj).1.symm
      subst hp
      obtain ⟨hts, htl⟩ := hT ts (by rw [h1]; simp)
      refine EX.cons (EX1.ite (b := (word.map sg).isSublist ts) (ET.of_eq (ET.cmp (EV.callF (EV.gref hge rfl) rfl (EVs.cons (EV.local rfl (lk h3)) (EVs.cons (EV.local rfl rfl) EVs.nil))
        hde (em_ss hde hg hlen (fun s hs => (hss s hs).1) hts hpat (by omega) htl) (Nat.le_refl 1)) EV.cbool Bi.is_bool rfl) (by cases (word.map sg).isSublist ts <;> rfl)) (fun hb => ?_) fun hb => EX.nil ?_)
      · refine EX.cons (EX1.ret EV.cbool (.inl ?_))
        congr 2
        rw [h1, List.any_append, List.any_cons, hb]
        simp
      · refine EX.nil ⟨rfl, dn ++ [ts], xs, by rw [h1]; simp, by simp [textsPV], lk h3, ?_⟩
        rw [List.any_append, h4]
        simp [hb]
  · rintro V' M' ⟨rfl, dn, rest, h1, h2, h3, h4⟩
    have hr : rest = [] := by
      have := congrArg List.length h2
      rw [h1] at this
      simp at this
      exact this
    subst hr
    rw [List.append_nil] at h1
    subst h1
    exact EX.cons (EX1.ret EV.cbool (.inl (by rw [h4])))
/-- the words -/
def layers : Nat → List (List Nat)
  | 0 => [[]]
  | n + 1 => (layers n).flatMap fun u => [48, 49, 50].map fun c => u ++ [c]
def wordsTo : Nat → List (List Nat)
  | 0 => [[]]
  | n + 1 => wordsTo n ++ layers (n + 1)
abbrev wPV (l : List (List Nat)) : List PV := l.map fun u => .str (ofL u)
def catPV : PV → PV → PV
  | .str a, .str b => .str (a ++ b)
  | _, _ => .none
theorem layer_pv (l : List (List Nat)) : ((wPV l).flatMap fun p => ([48, 49, 50].map fun c => PV.str ⟨#[c]⟩).map (catPV p)) = wPV (l.flatMap fun u => [48, 49, 50].map fun c => u ++ [c]) := by
  induction l with
  | nil => rfl
  | cons u l ih =>
    show List.flatMap _ (PV.str (ofL u) :: wPV l) = _
    rw [List.flatMap_cons, ih, List.flatMap_cons]
    simp only [wPV, List.map_append, List.map_map]
    congr 1
    refine List.map_congr_left fun c _ => ?_
    show PV.str (ofL u ++ ofL [c]) = PV.str (ofL (u ++ [c]))
    rw [ofL_app]
theorem layer_len : ∀ n, n ≤ 3 → (layers n).length ≤ 27 ∧ (wordsTo n).length ≤ 40 := by decide
theorem layer_mem : ∀ n, n ≤ 3 → ∀ u ∈ layers n, u.length ≤ 3 := by decide
theorem words_ok {prog : Program} {w : World} {mg mb : Str → Option Value} {K : List (Addr × Obj)} {f : Addr} {mod code : Value} (hd : IsDef K f (fdOf "_law_words" (parts pw_re0170_02 71) .none mod code)) (hrange : mg "range" = none) :
    FnOk prog w mg mb K f [] [] (.list (wPV (wordsTo 3))) 1 := by
  refine FnOk.of_body (names := []) hd rfl ?_ (by decide) rfl ⟨[], fun _ => rfl, List.nodup_nil⟩ ?_ ?_
  · intro vs hv
    match vs, hv with
    | [], _ => rfl
  · intro L x hx; cases hx
  intro A L
  have hnil : Str.ofString "" = ofL [] := by decide +kernel
  have h012 : (Str.ofString "012").cps.toList = [48, 49, 50] := by decide +kernel
  refine EX.cons (EX1.assignOwn (.inl rfl) (SN.list rfl (EVs.cons EV.cstr EVs.nil) (by decide)) (fun p hp => by rw [List.mem_singleton.mp hp]; exact Scalar.str) rfl fun a => ?_)
  have hM : ([(a, MO.list [PV.str (Str.ofString "")])] : Owns) = [(a, .list (wPV [[]]))] := by rw [hnil]; rfl
  rw [hM]
  refine EX.cons (EX1.assign (pv := .list (wPV [[]])) (.inl rfl) (EV.of_eq (SN.list rfl (EVs.cons EV.cstr EVs.nil) (by decide)).sv (by rw [hnil]; rfl)) rfl ?_)
  refine EX.cons (EX1.for (fun done V' M' => done.length ≤ 3 ∧ M' = [(a, .list (wPV (wordsTo done.length)))] ∧ vat V' "words" = some (.at a) ∧ vat V' "layer" = some (.list (wPV (layers done.length)))) rfl
    (It.range1 (EV.builtin rfl hrange (by decide +kernel) (by decide)) EV.cint rfl (by decide) (by decide)) ⟨Nat.zero_le _, rfl, rfl, rfl⟩ ?_ ?_ (fun _ => rfl))
  · rintro done p rest V' M' hit ⟨g0, rfl, g1, g2⟩
    obtain ⟨_, hk⟩ := up_split hit
    have hk3 : done.length < 3 := hk
    generalize hkk : done.length = k at *
    have hly := layer_len k (by omega)
    have hly2 := layer_len (k + 1) (by omega)
    have hcat := layer_pv (layers k)
    have hgo : (wPV (layers k)).flatMap (fun p => ([48, 49, 50].map fun c => PV.str ⟨#[c]⟩).map (catPV p)) = wPV (layers (k + 1)) := hcat
    refine EX.cons ?_
    refine EX1.assignComp2 (g := fun _ => [48, 49, 50].map fun c => PV.str ⟨#[c]⟩) (f := catPV) (items := wPV (layers k)) (Vc := []) ?_ ?_ ?_ ?_ ?_ ?_ ?_ ?_ ?_ ?_ ?_ ?_ ?_ ?_
    · exact .inl rfl
    · rfl
    · refine ⟨?_, ?_, rfl, ?_, rfl, ?_⟩
      · intro p hp hk
        simp only [List.mem_cons, List.not_mem_nil, or_false] at hp
        rcases hp with rfl | rfl | rfl <;> first | (cases hk; done) | rfl
      · intro y hy hk
        simp only [List.mem_cons, List.not_mem_nil, or_false] at hy
        rcases hy with rfl | rfl | rfl <;> cases hk
      · intro y hy hk
        simp only [List.mem_cons, List.not_mem_nil, or_false] at hy
        rcases hy with rfl | rfl | rfl <;> first | (cases hk; done) | rfl
      · intro y pv ee; cases ee
    · rfl
    · decide
    · rfl
    · rfl
    · exact It.list (EV.local rfl (lk g2))
    · exact fun _ => rfl
    · intro Ca p hp M'
      have e : (([48, 49, 50] : List Nat).map fun c => PV.str ⟨#[c]⟩) = (Str.ofString "012").cps.toList.map fun c => PV.str ⟨#[c]⟩ := by rw [h012]
      show It _ _ _ _ (([48, 49, 50] : List Nat).map fun c => PV.str ⟨#[c]⟩)
      rw [e]
      exact It.str EV.cstr
    · exact fun _ _ => rfl
    · intro Ca p hp q hq M'
      obtain ⟨u, hu, rfl⟩ := List.mem_map.mp hp
      obtain ⟨c, hc, rfl⟩ := List.mem_map.mp hq
      have hul := layer_mem k (by omega) u hu
      refine EV.bin (EV.local rfl rfl) (EV.local rfl rfl) (Bi.add_str ?_)
      have e1 : Str.length (ofL u) = u.length := by simp [Str.length]
      have e2 : Str.length (⟨#[c]⟩ : Str) = 1 := rfl
      rw [e1, e2]; exact le_size (by omega)
    · rw [hgo, List.length_map]; exact le_size (by omega)
    rw [hgo]
    refine EX.cons (EX1.extend (M₁ := []) (M₂ := []) (EV.local rfl (lk (lk g1))) rfl (EV.local rfl rfl) (by rw [List.length_map, List.length_map]; exact le_size (by omega)) rfl rfl rfl rfl ?_)
    refine EX.nil ⟨by rw [List.length_append, hkk, List.length_singleton]; omega, ?_, lk (lk g1), ?_⟩
    · rw [List.length_append, hkk, List.length_singleton]
      show [(a, MO.list (wPV (wordsTo k) ++ wPV (layers (k + 1))))] = [(a, MO.list (wPV (wordsTo k ++ layers (k + 1))))]
      rw [wPV, wPV, wPV, List.map_append]
    · rw [List.length_append, hkk, List.length_singleton]; rfl
  · rintro V' M' ⟨g0, rfl, g1, g2⟩
    rw [upFrom_len]
    exact EX.cons (EX1.retOwn (EV.local rfl g1) (List.mem_singleton.mpr rfl) (.inl rfl))
end Mine

/-! F2p -/
namespace Mine
open PySem PySem.W PySem.Calls PyProof.Rows PySem.Challenge PySem.Builtin
set_option Elab.async false
set_option maxRecDepth 100000
set_option maxHeartbeats 4000000

theorem contains_ch (l : List Nat) (d : Nat) : Txt.contains (ofL l) ⟨#[d]⟩ = l.contains d := by
  have h : Txt.contains (ofL l) ⟨#[d]⟩ = true ↔ l.contains d = true := by
    unfold Txt.contains
    rw [StrLaws.found_iff, List.contains_iff_mem]
    constructor
    · rintro ⟨i, h⟩
      exact List.mem_of_getElem? ((StrLaws.subAt_one _ _ _).mp h)
    · intro h
      obtain ⟨i, hi, e⟩ := List.mem_iff_getElem.mp h
      exact ⟨i, (StrLaws.subAt_one _ _ _).mpr (by show l[i]? = some d; rw [List.getElem?_eq_getElem hi, e])⟩
  cases h1 : Txt.contains (ofL l) ⟨#[d]⟩ <;> cases h2 : l.contains d <;> simp_all
theorem one_inj {c d : Nat} : ((⟨#[c]⟩ : Str) = ⟨#[d]⟩) ↔ c = d := by
  constructor
  · intro h; have := congrArg (fun s : Str => s.cps.toList) h; simpa using this
  · rintro rfl; rfl
theorem item_ofL {l : List Nat} {i : Nat} (h : i < l.length) : Txt.item (ofL l) (i : Int) = ⟨#[l.getD i 0]⟩ := by
  have hl : (ofL l).length = l.length := by simp [Str.length]
  unfold Txt.item Txt.charAt seqIndex?
  rw [hl]
  have e : (ofL l).cps[i]? = some (l.getD i 0) := by
    show l.toArray[i]? = _
    rw [List.getElem?_toArray, List.getD_eq_getElem?_getD, List.getElem?_eq_getElem h]; rfl
  have e2 : ¬ ((i : Int) < 0) := by omega
  have e3 : (i : Int) < (l.length : Int) := by omega
  have e4 : (0 : Int) ≤ (i : Int) := by omega
  simp [e2, e3, e4]
/-- the parts about a name -/
def lftB (b : List Nat) : List Nat := b.takeWhile (· != 115)
def rgtB (b : List Nat) : List Nat := ((b.dropWhile (· != 115)).drop 1).takeWhile (· != 115)
def chs4 : List Nat := [48, 49, 50, 115]
def allB : List (List Nat) := [] :: (chs4.map (fun a => [a]) ++ (chs4.flatMap (fun a => chs4.map fun b => [a, b]) ++ chs4.flatMap fun a => chs4.flatMap fun b => chs4.map fun c => [a, b, c]))
def chkB (b : List Nat) : Bool := decide (Txt.count (ofL b) (Str.ofString "s") = (b.count 115 : Nat)) && (!b.contains 115 || (decide ((Txt.split (ofL b) (Str.ofString "s"))[0]? = some (ofL (lftB b))) && decide ((Txt.split (ofL b) (Str.ofString "s"))[1]? = some (ofL (rgtB b)))))
theorem chk_allB : allB.all chkB = true := by decide +kernel
theorem mem_allB {b : List Nat} (h : ∀ c ∈ b, c ∈ chs4) (hl : b.length ≤ 3) : b ∈ allB := by
  unfold allB
  match b, h, hl with
  | [], _, _ => exact List.mem_cons_self
  | [a], h, _ => exact List.mem_cons_of_mem _ (List.mem_append_left _ (List.mem_map.mpr ⟨a, h a (by simp), rfl⟩))
  | [a, b], h, _ => exact List.mem_cons_of_mem _ (List.mem_append_right _ (List.mem_append_left _ (List.mem_flatMap.mpr ⟨a, h a (by simp), List.mem_map.mpr ⟨b, h b (by simp), rfl⟩⟩)))
  | [a, b, c], h, _ => exact List.mem_cons_of_mem _ (List.mem_append_right _ (List.mem_append_right _ (List.mem_flatMap.mpr ⟨a, h a (by simp), List.mem_flatMap.mpr ⟨b, h b (by simp), List.mem_map.mpr ⟨c, h c (by simp), rfl⟩⟩⟩)))
structure BodyOk (b : List Nat) : Prop where
  c : ∀ c ∈ b, c = 48 ∨ c = 49 ∨ c = 50 ∨ c = 115
  l : b.length ≤ 3
theorem BodyOk.mem {b : List Nat} (h : BodyOk b) : b ∈ allB := mem_allB (fun c hc => by rcases h.c c hc with rfl | rfl | rfl | rfl <;> decide) h.l
theorem BodyOk.count {b : List Nat} (h : BodyOk b) : Txt.count (ofL b) (Str.ofString "s") = (b.count 115 : Nat) := by
  have := List.all_eq_true.mp chk_allB b h.mem
  unfold chkB at this
  rw [Bool.and_eq_true] at this
  exact of_decide_eq_true this.1
theorem BodyOk.split {b : List Nat} (h : BodyOk b) (hs : b.contains 115 = true) : (Txt.split (ofL b) (Str.ofString "s"))[0]? = some (ofL (lftB b)) ∧ (Txt.split (ofL b) (Str.ofString "s"))[1]? = some (ofL (rgtB b)) := by
  have := List.all_eq_true.mp chk_allB b h.mem
  unfold chkB at this
  rw [Bool.and_eq_true, hs] at this
  have h2 := this.2
  simp only [Bool.not_true, Bool.false_or, Bool.and_eq_true, decide_eq_true_eq] at h2
  exact h2
/-- how far a front goes, how far an end -/
def twL (l w : List Nat) : Nat := (w.takeWhile fun c => l.contains c).length
def trR (r w : List Nat) (b : Nat) : Nat := ((w.drop b).reverse.takeWhile fun c => r.contains c).length
theorem tw_test {p : Nat → Bool} : ∀ (w : List Nat) (b : Nat), b ≤ (w.takeWhile p).length → (decide (b < w.length) && p (w.getD b 0)) = decide (b < (w.takeWhile p).length)
  | [], b, h => by simp at h; subst h; rfl
  | c :: w, b, h => by
    rw [List.takeWhile_cons] at h ⊢
    cases hp : p c with
    | false =>
      rw [hp] at h
      simp at h
      subst h
      simp [hp]
    | true =>
      rw [hp] at h
      simp only [if_true] at h ⊢
      cases b with
      | zero => simp [hp]
      | succ b =>
        have ih := tw_test (p := p) w b (by simpa using h)
        simpa using ih
def greedy (w : List Nat) (e : Nat) (b : Nat) (body : List Nat) : Nat := body.foldl (fun sp c => if sp < e ∧ w.getD sp 0 = c then sp + 1 else sp) b
def dueP (l r : List Nat) (bodies : List (List Nat)) (w : List Nat) : Bool :=
  bodies.any fun body => decide (greedy w (w.length - trR r w (twL l w)) (twL l w) body = w.length - trR r w (twL l w)) && !body.contains 115
def manyB (bodies : List (List Nat)) : Bool := bodies.any fun b => decide (1 < b.count 115)
abbrev leftB (bodies : List (List Nat)) : List Nat := ((bodies.filter fun b => b.contains 115).map lftB).flatten
abbrev rightB (bodies : List (List Nat)) : List Nat := ((bodies.filter fun b => b.contains 115).map rgtB).flatten
def dueW (bodies words : List (List Nat)) : List (List Nat) :=
  if manyB bodies then words.filter fun w => (w.filter fun c => !bodies.flatten.contains c).isEmpty else words.filter (dueP (leftB bodies) (rightB bodies) bodies)
theorem greedy_le {w : List Nat} {e : Nat} : ∀ (body : List Nat) {b : Nat}, b ≤ e → b ≤ greedy w e b body ∧ greedy w e b body ≤ e
  | [], _, h => ⟨Nat.le_refl _, h⟩
  | c :: body, b, h => by
    unfold greedy
    rw [List.foldl_cons]
    split
    · rename_i q
      have := greedy_le (w := w) (e := e) body (b := b + 1) (by omega)
      exact ⟨by have := this.1; unfold greedy at this; omega, this.2⟩
    · exact greedy_le body h
end Mine

/-! F2q -/
namespace Mine
open PySem PySem.W PySem.Calls PyProof.Rows PySem.Challenge PySem.Builtin
set_option Elab.async false
set_option maxRecDepth 100000
set_option maxHeartbeats 4000000

theorem len_ofL (l : List Nat) : Str.length (ofL l) = l.length := by simp [Str.length]
theorem join_bodies (l : List (List Nat)) : Txt.join (Str.ofString "") (l.map ofL) = ofL l.flatten := by
  apply Str.ext'
  apply Array.toList_inj.mp
  rw [join_none, List.map_map]
  show (l.map fun x => x).flatten = l.flatten
  rw [List.map_id']
theorem wPV_map (l : List (List Nat)) : wPV l = (l.map ofL).map .str := by rw [List.map_map]; rfl
def cpsP : PV → List Nat
  | .str s => s.cps.toList
  | _ => []
theorem filter_wPV (t : List Nat → Bool) (l : List (List Nat)) : ((wPV l).filter fun p => t (cpsP p)) = wPV (l.filter t) := by
  induction l with
  | nil => rfl
  | cons b l ih =>
    show List.filter _ (PV.str (ofL b) :: wPV l) = _
    rw [List.filter_cons, List.filter_cons, ih]
    show (if t b = true then _ else _) = _
    cases t b <;> rfl
theorem split_size {x : Str} (h : x.length ≤ 1000000) : (Builtin.Str.partsBetween x (Builtin.Str.occurrences x (Str.ofString "s") 0 x.length (x.length + 1)) (Str.length (Str.ofString "s"))).length ≤ sizeLine := by
  rw [length_partsBetween]
  have := StrLaws.occ_length_le x (Str.ofString "s") 0 x.length (x.length + 1)
  have : sizeLine = 2 ^ 24 := rfl
  omega
theorem trR_le (r w : List Nat) (b : Nat) : trR r w b ≤ w.length - b := by
  unfold trR
  refine Nat.le_trans (List.takeWhile_sublist _).length_le ?_
  rw [List.length_reverse, List.length_drop]; exact Nat.le_refl _
theorem twL_le (l w : List Nat) : twL l w ≤ w.length := (List.takeWhile_sublist _).length_le
theorem tr_test (r w : List Nat) {b j : Nat} (hb : b ≤ w.length) (h : j ≤ trR r w b) : (decide (b < w.length - j) && r.contains (w.getD (w.length - j - 1) 0)) = decide (j < trR r w b) := by
  have hj := trR_le r w b
  have e := tw_test (p := fun c => r.contains c) (w.drop b).reverse j h
  rw [List.length_reverse, List.length_drop] at e
  by_cases q : j < w.length - b
  · have e2 : (w.drop b).reverse.getD j 0 = w.getD (w.length - j - 1) 0 := by
      rw [List.getD_eq_getElem?_getD, List.getD_eq_getElem?_getD, List.getElem?_reverse (by rw [List.length_drop]; exact q), List.getElem?_drop, List.length_drop]
      congr 2; omega
    rw [e2] at e
    have e3 : decide (b < w.length - j) = decide (j < w.length - b) := decide_eq_decide.mpr (by omega)
    rw [e3]; exact e
  · have e3 : decide (b < w.length - j) = false := decide_eq_false (by omega)
    rw [e3, Bool.false_and]
    exact (decide_eq_false (by omega)).symm
abbrev dueB : List Stmt := (parts pw_re0170_02 72).2.2.1
abbrev dueCx (prog : Program) (w : World) (mg mb : Str → Option Value) (K : List (Addr × Obj)) (mod code : Value) (A : Around) (L f : Addr) : Cx := calleeCx prog w mg mb K (fdOf "_law_due" (parts pw_re0170_02 72) .none mod code) A L f 0
abbrev dueK (bodies words : List (List Nat)) : Cont := fun fl _ _ => fl = .ret (.list (wPV (dueW bodies words))) ∨ (fl = .next ∧ PV.list (wPV (dueW bodies words)) = .none)
abbrev varsD (bodies words : List (List Nat)) : Vars := [(Str.ofString "right", .str (ofL (rightB bodies))), (Str.ofString "left", .str (ofL (leftB bodies))), (Str.ofString "bodies", .list (wPV bodies)), (Str.ofString "words", .list (wPV words))]
theorem due_a {prog : Program} {w : World} {mg mb : Str → Option Value} {K : List (Addr × Obj)} {f : Addr} {mod code : Value} {A : Around} {L : Addr}
    {bodies words : List (List Nat)} (hB : ∀ b ∈ bodies, BodyOk b) (hBl : bodies.length ≤ 5) (hW : ∀ u ∈ words, (∀ c ∈ u, c = 48 ∨ c = 49 ∨ c = 50) ∧ u.length ≤ 3) (hWl : words.length ≤ 100)
    (h : manyB bodies = false → EX (dueCx prog w mg mb K mod code A L f) (varsD bodies words) [] (dueB.drop 4) (dueK bodies words)) :
    EX (dueCx prog w mg mb K mod code A L f) [(Str.ofString "bodies", .list (wPV bodies)), (Str.ofString "words", .list (wPV words))] [] dueB (dueK bodies words) := by
  have str_s' : Str.ofString "s" = (⟨#[115]⟩ : Str) := by decide +kernel
  have hBz : (wPV bodies).length ≤ sizeLine := by rw [List.length_map]; exact le_size (by omega)
  have hjb : ∀ (g : List Nat → List Nat) (l : List (List Nat)), (∀ b ∈ l, (g b).length ≤ 3) → l.length ≤ 5 → JoinOk "" ((l.map g).map ofL) = true := fun g l h1 h2 => joinOk_small (fun t ht => by
    obtain ⟨b, hb, rfl⟩ := List.mem_map.mp ht
    obtain ⟨b', hb', rfl⟩ := List.mem_map.mp hb
    rw [len_ofL]; have := h1 b' hb'; omega) (by rw [List.length_map, List.length_map]; omega)
  have hj0 := hjb (fun b => b) bodies (fun b hb => (hB b hb).l) hBl
  rw [List.map_id'] at hj0
  have hcond : ((wPV bodies).filter fun p => decide (1 < (cpsP p).count 115)).map (fun p => p) = wPV (bodies.filter fun b => decide (1 < b.count 115)) := by
    rw [List.map_id']; exact filter_wPV (fun b => decide (1 < b.count 115)) bodies
  have hmany : (!(wPV (bodies.filter fun b => decide (1 < b.count 115))).isEmpty) = manyB bodies := by
    unfold manyB
    rw [Bool.eq_iff_iff, List.any_eq_true]
    constructor
    · intro h
      cases hq : bodies.filter fun b => decide (1 < b.count 115) with
      | nil => rw [hq] at h; cases h
      | cons x xs =>
        have hx : x ∈ bodies.filter fun b => decide (1 < b.count 115) := by rw [hq]; exact List.mem_cons_self
        obtain ⟨h1, h2⟩ := List.mem_filter.mp hx
        exact ⟨x, h1, h2⟩
    · rintro ⟨x, h1, h2⟩
      have hx : x ∈ bodies.filter fun b => decide (1 < b.count 115) := List.mem_filter.mpr ⟨h1, h2⟩
      cases hq : bodies.filter fun b => decide (1 < b.count 115) with
      | nil => rw [hq] at hx; cases hx
      | cons _ _ => rfl
  -- every
  refine EX.cons (EX1.assign (pv := .str (ofL bodies.flatten)) (.inr ⟨rfl, rfl, rfl⟩) (EV.of_eq (EV.meth EV.cstr rfl (EVs.cons (EV.of_eq (EV.local rfl rfl) (congrArg PV.list (wPV_map bodies))) EVs.nil) mth_join Ty.str (Bn.join hj0) rfl rfl (by decide)) (congrArg PV.str (join_bodies bodies))) rfl ?_)
  -- if [..]
  refine EX.cons (EX1.ite (b := manyB bodies) (ET.of_eq (ET.val (EV.of_eq (EV.comp (items := wPV bodies) (kp := fun p => decide (1 < (cpsP p).count 115)) (f := fun p => p) (Vc := []) ?_ (It.list (EV.local rfl rfl)) hBz ?_ (fun _ => rfl)) (congrArg PV.list hcond)) (Tr.list (by rw [List.length_map]; exact le_size (by have h1 : (bodies.filter fun b => decide (1 < b.count 115)).length ≤ bodies.length := List.length_filter_le _ _; omega)) ) rfl) hmany) (fun hb => ?_) (fun hb => EX.nil ?_))
  · refine ⟨?_, ?_, rfl, ?_, rfl, ?_⟩
    · intro p hp hk
      simp only [List.mem_cons, List.not_mem_nil, or_false] at hp
      rcases hp with rfl | rfl <;> first | (cases hk; done) | rfl
    · intro y hy hk
      simp only [List.mem_cons, List.not_mem_nil, or_false] at hy
      rcases hy with rfl | rfl <;> cases hk
    · intro y hy hk
      simp only [List.mem_cons, List.not_mem_nil, or_false] at hy
      rcases hy with rfl | rfl <;> first | (cases hk; done) | rfl
    · intro y pv ee; cases ee
  · intro Ca p hp
    obtain ⟨b, hb, rfl⟩ := List.mem_map.mp hp
    refine ⟨CT.one (ET.of_eq (ET.cmp (EV.meth (EV.local rfl rfl) rfl (EVs.cons EV.cstr EVs.nil) mth_count Ty.str Bn.count rfl rfl (by decide)) EV.cint Bi.gt_int rfl) ?_), fun _ => EV.local rfl rfl⟩
    rw [(hB b hb).count]
    exact decide_eq_decide.mpr (by show ((b.count 115 : Nat) : Int) > 1 ↔ 1 < b.count 115; omega)
  · -- every word of the signs
    have hres : dueW bodies words = words.filter fun u => (u.filter fun c => !bodies.flatten.contains c).isEmpty := by unfold dueW; rw [if_pos hb]
    have hf := filter_wPV (fun u => (u.filter fun c => !bodies.flatten.contains c).isEmpty) words
    refine EX.cons (EX1.ret (EV.of_eq (EV.comp (items := wPV words) (kp := fun p => ((cpsP p).filter fun c => !bodies.flatten.contains c).isEmpty) (f := fun p => p) (Vc := [(Str.ofString "every", .str (ofL bodies.flatten))]) ?_ (It.list (EV.local rfl rfl)) (by rw [List.length_map]; exact le_size (by omega)) ?_ (fun _ => rfl)) (by rw [List.map_id', hf])) (.inl (by rw [hres])))
    · refine ⟨?_, ?_, rfl, ?_, rfl, ?_⟩
      · intro p hp hk
        simp only [List.mem_cons, List.not_mem_nil, or_false] at hp
        rcases hp with rfl | rfl | rfl <;> first | (cases hk; done) | rfl
      · intro y hy hk
        simp only [List.mem_cons, List.not_mem_nil, or_false] at hy
        rcases hy with rfl | rfl | rfl <;> cases hk
      · intro y hy hk
        simp only [List.mem_cons, List.not_mem_nil, or_false] at hy
        rcases hy with rfl | rfl | rfl <;> first | (cases hk; done) | rfl
      · intro y pv ee
        rw [lookup_cons_of] at ee
        by_cases q : y = Str.ofString "every"
        · subst q
          rw [if_pos rfl] at ee
          cases ee
          exact ⟨rfl, rfl, rfl, rfl⟩
        · rw [if_neg q] at ee; cases ee
    · intro Ca p hp
      obtain ⟨u, hu, rfl⟩ := List.mem_map.mp hp
      have hul := (hW u hu).2
      have hin : ((u.map fun c => PV.str ⟨#[c]⟩).filter fun p => !bodies.flatten.contains ((cpsP p).headD 0)).map (fun p => p) = ((u.filter fun c => !bodies.flatten.contains c).map fun c => (⟨#[c]⟩ : Str)).map .str := by
        rw [List.map_id', List.map_map]
        clear hu hul hp
        induction u with
        | nil => rfl
        | cons c u ih =>
          rw [List.map_cons, List.filter_cons, List.filter_cons, ih]
          show (if (!bodies.flatten.contains c) = true then _ else _) = _
          cases bodies.flatten.contains c <;> rfl
      refine ⟨CT.one (ET.of_eq (ET.cmp (EV.of_eq (EV.comp (items := u.map fun c => PV.str ⟨#[c]⟩) (kp := fun p => !bodies.flatten.contains ((cpsP p).headD 0)) (f := fun p => p) (Vc := [(Str.ofString "every", .str (ofL bodies.flatten))]) ?_ (It.str (x := ofL u) (EV.local rfl rfl)) (by rw [List.length_map]; exact le_size (by omega)) ?_ (fun _ => rfl)) (congrArg PV.list hin)) (EV.of_eq (SN.list rfl EVs.nil (by decide)).sv (show PV.list [] = PV.list (([] : List Str).map .str) from rfl)) Bi.eq_strs rfl) ?_), fun _ => EV.local rfl rfl⟩
      · refine ⟨?_, ?_, rfl, ?_, rfl, ?_⟩
        · intro p hp hk
          simp only [List.mem_cons, List.not_mem_nil, or_false] at hp
          rcases hp with rfl | rfl | rfl <;> first | (cases hk; done) | rfl
        · intro y hy hk
          simp only [List.mem_cons, List.not_mem_nil, or_false] at hy
          rcases hy with rfl | rfl | rfl <;> cases hk
        · intro y hy hk
          simp only [List.mem_cons, List.not_mem_nil, or_false] at hy
          rcases hy with rfl | rfl | rfl <;> first | (cases hk; done) | rfl
        · intro y pv ee
          rw [lookup_cons_of] at ee
          by_cases q : y = Str.ofString "every"
          · subst q
            rw [if_pos rfl] at ee
            cases ee
            exact ⟨rfl, rfl, rfl, rfl⟩
          · rw [if_neg q] at ee; cases ee
      · intro Cb p hp
        obtain ⟨c, hc, rfl⟩ := List.mem_map.mp hp
        refine ⟨CT.one (ET.of_eq (ET.cmp (EV.local rfl rfl) (EV.cell rfl rfl) Bi.notIn_str rfl) ?_), fun _ => EV.local rfl rfl⟩
        rw [contains_ch]; rfl
      · show decide ((u.filter fun c => !bodies.flatten.contains c).map (fun c => (⟨#[c]⟩ : Str)) = []) = (u.filter fun c => !bodies.flatten.contains c).isEmpty
        cases u.filter fun c => !bodies.flatten.contains c <;> simp
  -- left, right
  have hside : ∀ (g : List Nat → List Nat), (((wPV bodies).filter fun p => (cpsP p).contains 115).map fun p => PV.str (ofL (g (cpsP p)))) = (((bodies.filter fun b => b.contains 115).map g).map ofL).map .str := fun g => by
    rw [filter_wPV (fun b => b.contains 115) bodies, List.map_map, List.map_map, List.map_map]; rfl
  have hfl : (bodies.filter fun b => b.contains 115).length ≤ 5 := Nat.le_trans (List.length_filter_le _ _) hBl
  have hjl := hjb lftB (bodies.filter fun b => b.contains 115) (fun b hb => Nat.le_trans (List.takeWhile_sublist _).length_le (hB b (List.mem_filter.mp hb).1).l) hfl
  have hjr := hjb rgtB (bodies.filter fun b => b.contains 115) (fun b hb => by
    unfold rgtB
    refine Nat.le_trans (List.takeWhile_sublist _).length_le ?_
    rw [List.length_drop]
    have h1 : (b.dropWhile (· != 115)).length ≤ b.length := (List.dropWhile_sublist _).length_le
    have := (hB b (List.mem_filter.mp hb).1).l; omega) hfl
  refine EX.cons (EX1.assign (pv := .str (ofL (leftB bodies))) (.inl rfl) (EV.of_eq (EV.meth EV.cstr rfl (EVs.cons (EV.of_eq (EV.comp (items := wPV bodies) (kp := fun p => (cpsP p).contains 115) (f := fun p => PV.str (ofL (lftB (cpsP p)))) (Vc := []) ?_ (It.list (EV.local rfl rfl)) hBz ?_ (fun _ => rfl)) (congrArg PV.list (hside lftB))) EVs.nil) mth_join Ty.str (Bn.join hjl) rfl rfl (by decide)) (congrArg PV.str (join_bodies _))) rfl ?_)
  · refine ⟨?_, ?_, rfl, ?_, rfl, ?_⟩
    · intro p hp hk
      simp only [List.mem_cons, List.not_mem_nil, or_false] at hp
      rcases hp with rfl | rfl <;> first | (cases hk; done) | rfl
    · intro y hy hk
      simp only [List.mem_cons, List.not_mem_nil, or_false] at hy
      rcases hy with rfl | rfl <;> cases hk
    · intro y hy hk
      simp only [List.mem_cons, List.not_mem_nil, or_false] at hy
      rcases hy with rfl | rfl <;> first | (cases hk; done) | rfl
    · intro y pv ee; cases ee
  · intro Ca p hp
    obtain ⟨b, hb', rfl⟩ := List.mem_map.mp hp
    have hbl := (hB b hb').l
    refine ⟨CT.one (ET.of_eq (ET.cmp EV.cstr (EV.local rfl rfl) Bi.in_str rfl) (by rw [str_s', contains_ch]; rfl)), fun hk => ?_⟩
    have hsp := (hB b hb').split hk
    exact EV.sub (EV.meth (EV.local rfl rfl) rfl (EVs.cons EV.cstr EVs.nil) mth_split Ty.str (Bn.split (by decide +kernel) (by rw [len_ofL]; exact le_size (by omega)) (split_size (by rw [len_ofL]; omega))) rfl rfl (by decide)) EV.cint (Ix.list (by decide) (by rw [List.getElem?_map, show (0 : Int).toNat = 0 from rfl, hsp.1]; rfl) (by decide))
  refine EX.cons (EX1.assign (pv := .str (ofL (rightB bodies))) (.inl rfl) (EV.of_eq (EV.meth EV.cstr rfl (EVs.cons (EV.of_eq (EV.comp (items := wPV bodies) (kp := fun p => (cpsP p).contains 115) (f := fun p => PV.str (ofL (rgtB (cpsP p)))) (Vc := []) ?_ (It.list (EV.local rfl rfl)) hBz ?_ (fun _ => rfl)) (congrArg PV.list (hside rgtB))) EVs.nil) mth_join Ty.str (Bn.join hjr) rfl rfl (by decide)) (congrArg PV.str (join_bodies _))) rfl ?_)
  · refine ⟨?_, ?_, rfl, ?_, rfl, ?_⟩
    · intro p hp hk
      simp only [List.mem_cons, List.not_mem_nil, or_false] at hp
      rcases hp with rfl | rfl <;> first | (cases hk; done) | rfl
    · intro y hy hk
      simp only [List.mem_cons, List.not_mem_nil, or_false] at hy
      rcases hy with rfl | rfl <;> cases hk
    · intro y hy hk
      simp only [List.mem_cons, List.not_mem_nil, or_false] at hy
      rcases hy with rfl | rfl <;> first | (cases hk; done) | rfl
    · intro y pv ee; cases ee
  · intro Ca p hp
    obtain ⟨b, hb', rfl⟩ := List.mem_map.mp hp
    have hbl := (hB b hb').l
    refine ⟨CT.one (ET.of_eq (ET.cmp EV.cstr (EV.local rfl rfl) Bi.in_str rfl) (by rw [str_s', contains_ch]; rfl)), fun hk => ?_⟩
    have hsp := (hB b hb').split hk
    exact EV.sub (EV.meth (EV.local rfl rfl) rfl (EVs.cons EV.cstr EVs.nil) mth_split Ty.str (Bn.split (by decide +kernel) (by rw [len_ofL]; exact le_size (by omega)) (split_size (by rw [len_ofL]; omega))) rfl rfl (by decide)) EV.cint (Ix.list (by decide) (by rw [List.getElem?_map, show (1 : Int).toNat = 1 from rfl, hsp.2]; rfl) (by decide))
  refine XT.names (h hb) ?_
  intro y p e
  rw [lookup_cons_of] at e
  by_cases q : y = Str.ofString "right"
  · subst q; rw [if_pos rfl] at e; cases e; rfl
  rw [if_neg q, lookup_cons_of] at e
  by_cases q : y = Str.ofString "left"
  · subst q; rw [if_pos rfl] at e; cases e; rfl
  rw [if_neg q, lookup_cons_of] at e
  by_cases q : y = Str.ofString "bodies"
  · subst q; rw [if_pos rfl] at e; cases e; rfl
  rw [if_neg q, lookup_cons_of] at e
  by_cases q : y = Str.ofString "words"
  · subst q; rw [if_pos rfl] at e; cases e; rfl
  rw [if_neg q] at e; cases e
end Mine

/-! F2r -/
namespace Mine
open PySem PySem.W PySem.Calls PyProof.Rows PySem.Challenge PySem.Builtin
set_option Elab.async false
set_option maxRecDepth 100000
set_option maxHeartbeats 4000000

theorem due_ok {prog : Program} {w : World} {mg mb : Str → Option Value} {K : List (Addr × Obj)} {f : Addr} {mod code : Value} (hd : IsDef K f (fdOf "_law_due" (parts pw_re0170_02 72) .none mod code)) (hlen : mg "len" = none)
    {bodies words : List (List Nat)} (hB : ∀ b ∈ bodies, BodyOk b) (hBl : bodies.length ≤ 5) (hW : ∀ u ∈ words, (∀ c ∈ u, c = 48 ∨ c = 49 ∨ c = 50) ∧ u.length ≤ 3) (hWl : words.length ≤ 100) :
    FnOk prog w mg mb K f [.list (wPV bodies), .list (wPV words)] [] (.list (wPV (dueW bodies words))) 1 := by
  refine FnOk.of_body (names := ["bodies", "words"]) hd rfl ?_ (by decide) rfl ⟨["every"], fun _ => rfl, by decide⟩ ?_ ?_
  · intro vs hv
    match vs, hv with
    | [a, b], _ => rfl
  · intro L x hx
    simp only [List.mem_cons, List.not_mem_nil, or_false] at hx
    rcases hx with rfl | rfl <;> exact .inl rfl
  intro A L
  refine due_a hB hBl hW hWl fun hb => ?_
  have str_s' : Str.ofString "s" = (⟨#[115]⟩ : Str) := by decide +kernel
  have hres : dueW bodies words = words.filter (dueP (leftB bodies) (rightB bodies) bodies) := by unfold dueW; rw [if_neg (by rw [hb]; decide)]
  generalize hlb : leftB bodies = lb at *
  generalize hrb : rightB bodies = rb at *
  let J : Vars → Prop := fun V' => vat V' "right" = some (.str (ofL rb)) ∧ vat V' "left" = some (.str (ofL lb)) ∧ vat V' "bodies" = some (.list (wPV bodies))
  refine EX.cons (EX1.newList (.inl rfl) fun a => ?_)
  refine EX.cons (EX1.for (fun done V' M' => J V' ∧ vat V' "due" = some (.at a) ∧ ∃ dn rs, words = dn ++ rs ∧ done = wPV dn ∧ M' = [(a, .list (wPV (dn.filter (dueP lb rb bodies))))]) rfl (It.list (EV.local rfl rfl))
    ⟨⟨by rw [← hrb]; rfl, by rw [← hlb]; rfl, rfl⟩, rfl, [], words, rfl, rfl, rfl⟩ ?_ ?_ (fun _ => rfl))
  · rintro done p rest V' M' hit ⟨⟨j1, j2, j3⟩, j4, dn, rs, d1, rfl, rfl⟩
    rw [d1] at hit
    cases rs with
    | nil =>
      exfalso
      have := congrArg List.length hit
      simp at this
    | cons u rs =>
      have hp : p = .str (ofL u) := by
        simp only [wPV, List.map_append, List.map_cons] at hit
        exact ((List.append_cancel_left hit) |> List.cons.inj).1.symm
      subst hp
      obtain ⟨huc, hul⟩ := hW u (by rw [d1]; simp)
      have hdl : (dn.filter (dueP lb rb bodies)).length ≤ 100 := by
        have h1 := congrArg List.length d1
        have h2 : (dn.filter (dueP lb rb bodies)).length ≤ dn.length := List.length_filter_le _ _
        rw [List.length_append] at h1; omega
      have huz : (ofL u).length ≤ sizeLine := by rw [len_ofL]; exact le_size (by omega)
      have hitem : ∀ (C : Cx) V M (i : Nat), i < u.length → Ix C V M (.str (ofL u)) (.int (i : Int)) (.str ⟨#[u.getD i 0]⟩) := fun C V M i hi => by
        have := Ix.strOk (C := C) (V := V) (M := M) (x := ofL u) (i := (i : Int)) (by omega) (by rw [len_ofL]; omega) (by rw [len_ofL]; omega)
        rwa [item_ofL hi] at this
      have htw := twL_le lb u
      have htr := trR_le rb u (twL lb u)
      generalize hb0 : twL lb u = b0 at *
      generalize ht0 : trR rb u b0 = t0 at *
      let J2 : Vars → Prop := fun V => J V ∧ vat V "due" = some (.at a) ∧ vat V "word" = some (.str (ofL u))
      let MD : Owns := [(a, .list (wPV (dn.filter (dueP lb rb bodies))))]
      -- begin, end
      refine EX.cons (EX1.assign (.inl rfl) EV.cint rfl ?_)
      refine EX.cons (EX1.assign (pv := .int (u.length : Int)) (.inl rfl) (EV.of_eq (EV.callB (EV.builtin rfl hlen bootS_len (by decide)) rfl (EVs.cons (EV.local rfl rfl) EVs.nil) (Bn.len_str huz)) (by rw [len_ofL])) rfl ?_)
      refine EX.cons (EX1.while (fun n V2 M2 => M2 = MD ∧ J2 V2 ∧ ∃ b : Nat, b + n = b0 ∧ vat V2 "begin" = some (.int (b : Int)) ∧ vat V2 "end" = some (.int (u.length : Int))) b0
        ⟨rfl, ⟨⟨lk (lk (lk j1)), lk (lk (lk j2)), lk (lk (lk j3))⟩, lk (lk (lk j4)), rfl⟩, 0, by omega, rfl, rfl⟩ ?_)
      rintro n V2 M2 ⟨rfl, ⟨⟨i1, i2, i3⟩, i4, i5⟩, b, hbn, i6, i7⟩
      have hble : b ≤ (u.takeWhile fun c => lb.contains c).length := by
        have : (u.takeWhile fun c => lb.contains c).length = b0 := hb0
        omega
      have htest := tw_test (p := fun c => lb.contains c) u b hble
      refine ⟨decide (b < b0), ET.of_eq (ET.bool (AllT.and (ET.cmp (EV.local rfl i6) (EV.local rfl i7) Bi.lt_int rfl) fun hlt => AllT.and (ET.cmp (EV.sub (EV.local rfl i5) (EV.local rfl i6) (hitem _ _ _ b (by have := of_decide_eq_true hlt; omega))) (EV.local rfl i2) Bi.in_str rfl) fun _ => AllT.and_nil)) ?_, fun hb2 => ?_, fun hb2 => ?_⟩
      · rw [contains_ch, Bool.and_true]
        have e1 : decide ((b : Int) < (u.length : Int)) = decide (b < u.length) := decide_eq_decide.mpr (by omega)
        rw [e1]
        have : (u.takeWhile fun c => lb.contains c).length = b0 := hb0
        rw [← this]; exact htest
      · have hlt := of_decide_eq_true hb2
        refine EX.cons (EX1.aug rfl i6 EV.cint Bi.iadd_int (EX.nil ⟨n - 1, by omega, rfl, ⟨⟨lk i1, lk i2, lk i3⟩, lk i4, lk i5⟩, b + 1, by omega, ?_, lk i7⟩))
        show List.lookup _ _ = _
        rw [lookup_cons_of, if_pos rfl]; rfl
      · have hge := of_decide_eq_false hb2
        have hbb : b = b0 := by omega
        subst hbb
        show EX _ _ _ _ _
        refine EX.cons (EX1.while (fun n V3 M3 => M3 = MD ∧ J2 V3 ∧ ∃ j : Nat, j + n = t0 ∧ vat V3 "begin" = some (.int (b : Int)) ∧ vat V3 "end" = some (.int ((u.length - j : Nat) : Int))) t0
          ⟨rfl, ⟨⟨i1, i2, i3⟩, i4, i5⟩, 0, by omega, i6, by rw [Nat.sub_zero]; exact i7⟩ ?_)
        rintro n V3 M3 ⟨rfl, ⟨⟨i1, i2, i3⟩, i4, i5⟩, j, hjn, i6, i7⟩
        have hjle : j ≤ trR rb u b := by rw [ht0]; omega
        have htest2 := tr_test rb u htw hjle
        rw [ht0] at htest2
        refine ⟨decide (j < t0), ET.of_eq (ET.bool (AllT.and (ET.cmp (EV.local rfl i6) (EV.local rfl i7) Bi.lt_int rfl) fun hlt => AllT.and (ET.cmp (EV.sub (EV.local rfl i5) (EV.of_eq (b := .int ((u.length - j - 1 : Nat) : Int)) (EV.bin (EV.local rfl i7) EV.cint Bi.sub_int) (by have := of_decide_eq_true hlt; congr 1; omega)) (hitem _ _ _ (u.length - j - 1) (by have := of_decide_eq_true hlt; omega))) (EV.local rfl i1) Bi.in_str rfl) fun _ => AllT.and_nil)) ?_, fun hb3 => ?_, fun hb3 => ?_⟩
        · rw [contains_ch, Bool.and_true]
          have e1 : decide ((b : Int) < ((u.length - j : Nat) : Int)) = decide (b < u.length - j) := decide_eq_decide.mpr (by omega)
          rw [e1]; exact htest2
        · have hlt := of_decide_eq_true hb3
          refine EX.cons (EX1.aug rfl i7 EV.cint Bi.isub_int (EX.nil ⟨n - 1, by omega, rfl, ⟨⟨lk i1, lk i2, lk i3⟩, lk i4, lk i5⟩, j + 1, by omega, lk i6, ?_⟩))
          show List.lookup _ _ = _
          rw [lookup_cons_of, if_pos rfl]
          congr 2; omega
        · have hge := of_decide_eq_false hb3
          have hjj : j = t0 := by omega
          subst hjj
          show EX _ _ _ _ _
          generalize he0 : u.length - j = e0 at *
          have hbe : b ≤ e0 := by omega
          -- for body in bodies
          have hdue : dueP lb rb bodies u = bodies.any fun body => decide (greedy u e0 b body = e0) && !body.contains 115 := by
            unfold dueP; rw [hb0, ht0, he0]
          refine EX.cons (XT.mono (K := fun fl V4 M4 => fl = .next ∧ J2 V4 ∧ M4 = [(a, .list (wPV ((dn ++ [u]).filter (dueP lb rb bodies))))]) ?_ ?_)
          · have hno : dueP lb rb bodies u = false → [(a, MO.list (wPV (dn.filter (dueP lb rb bodies))))] = [(a, MO.list (wPV ((dn ++ [u]).filter (dueP lb rb bodies))))] := fun h => by
              rw [List.filter_append, List.filter_cons, h]; simp
            have hyes : dueP lb rb bodies u = true → wPV (dn.filter (dueP lb rb bodies)) ++ [PV.str (ofL u)] = wPV ((dn ++ [u]).filter (dueP lb rb bodies)) := fun h => by
              rw [List.filter_append, List.filter_cons, h]; simp [wPV]
            refine EX1.for (fun done V4 M4 => J2 V4 ∧ M4 = MD ∧ vat V4 "begin" = some (.int (b : Int)) ∧ vat V4 "end" = some (.int (e0 : Int)) ∧ ∃ pd ps, bodies = pd ++ ps ∧ done = wPV pd ∧ (pd.any fun body => decide (greedy u e0 b body = e0) && !body.contains 115) = false) rfl (It.list (EV.local rfl i3))
              ⟨⟨⟨i1, i2, i3⟩, i4, i5⟩, rfl, i6, i7, [], bodies, rfl, rfl, rfl⟩ ?_ ?_ (fun _ => rfl)
            · rintro done4 p4 rest4 V4 M4 hit4 ⟨⟨⟨i1, i2, i3⟩, i4, i5⟩, rfl, i6, i7, pd, ps, q1, rfl, q3⟩
              rw [q1] at hit4
              cases ps with
              | nil =>
                exfalso
                have := congrArg List.length hit4
                simp at this
              | cons body ps =>
                have hp : p4 = .str (ofL body) := by
                  simp only [wPV, List.map_append, List.map_cons] at hit4
                  exact ((List.append_cancel_left hit4) |> List.cons.inj).1.symm
                subst hp
                refine EX.cons (EX1.assign (.inl rfl) (EV.local rfl (lk i6)) rfl ?_)
                refine EX.cons (EX1.for (fun done V5 M5 => J2 V5 ∧ M5 = MD ∧ vat V5 "begin" = some (.int (b : Int)) ∧ vat V5 "end" = some (.int (e0 : Int)) ∧ vat V5 "body" = some (.str (ofL body)) ∧ ∃ xd xs, body = xd ++ xs ∧ done = (xd.map fun c => PV.str ⟨#[c]⟩) ∧ vat V5 "spot" = some (.int (greedy u e0 b xd : Nat))) rfl (It.str (x := ofL body) (EV.local rfl rfl))
                  ⟨⟨⟨lk (lk i1), lk (lk i2), lk (lk i3)⟩, lk (lk i4), lk (lk i5)⟩, rfl, lk (lk i6), lk (lk i7), rfl, [], body, rfl, rfl, rfl⟩ ?_ ?_ (fun _ => rfl))
                · rintro done5 p5 rest5 V5 M5 hit5 ⟨⟨⟨i1, i2, i3⟩, i4, i5⟩, rfl, i6, i7, i8, xd, xs, x1, rfl, x3⟩
                  have hit5' : (body.map fun c => PV.str ⟨#[c]⟩) = (xd.map fun c => PV.str ⟨#[c]⟩) ++ p5 :: rest5 := hit5
                  rw [x1] at hit5'
                  cases xs with
                  | nil =>
                    exfalso
                    have := congrArg List.length hit5'
                    simp at this
                  | cons c xs =>
                    have hp : p5 = .str ⟨#[c]⟩ := by
                      rw [List.map_append, List.map_cons] at hit5'
                      exact ((List.append_cancel_left hit5') |> List.cons.inj).1.symm
                    subst hp
                    obtain ⟨g1, g2⟩ := greedy_le (w := u) (e := e0) xd hbe
                    have hstep : greedy u e0 b (xd ++ [c]) = if greedy u e0 b xd < e0 ∧ u.getD (greedy u e0 b xd) 0 = c then greedy u e0 b xd + 1 else greedy u e0 b xd := by
                      unfold greedy; rw [List.foldl_append]; rfl
                    generalize hg : greedy u e0 b xd = sp at *
                    refine EX.cons (EX1.ite (b := decide (sp < e0 ∧ u.getD sp 0 = c)) (ET.of_eq (ET.bool (AllT.and (ET.cmp (EV.local rfl (lk x3)) (EV.local rfl (lk i7)) Bi.lt_int rfl) fun hlt => AllT.and (ET.cmp (EV.local rfl rfl) (EV.sub (EV.local rfl (lk i5)) (EV.local rfl (lk x3)) (hitem _ _ _ sp (by have := of_decide_eq_true hlt; omega))) Bi.eq_str rfl) fun _ => AllT.and_nil)) ?_) (fun hq => ?_) (fun hq => EX.nil ?_))
                    · rw [Bool.and_true, Bool.eq_iff_iff, Bool.and_eq_true, decide_eq_true_iff, decide_eq_true_iff, beq_iff_eq, one_inj]
                      constructor
                      · rintro ⟨z1, z2⟩; exact ⟨by omega, z2.symm⟩
                      · rintro ⟨z1, z2⟩; exact ⟨by omega, z2.symm⟩
                    · have hq' := of_decide_eq_true hq
                      rw [if_pos hq'] at hstep
                      refine EX.cons (EX1.aug rfl (lk x3) EV.cint Bi.iadd_int (EX.nil (EX.nil ⟨⟨⟨lk (lk i1), lk (lk i2), lk (lk i3)⟩, lk (lk i4), lk (lk i5)⟩, rfl, lk (lk i6), lk (lk i7), lk (lk i8), xd ++ [c], xs, by rw [x1]; simp, by simp, ?_⟩)))
                      rw [hstep]
                      show List.lookup _ _ = _
                      rw [lookup_cons_of, if_pos rfl]; rfl
                    · have hq' := of_decide_eq_false hq
                      rw [if_neg hq'] at hstep
                      refine EX.nil ⟨⟨⟨lk i1, lk i2, lk i3⟩, lk i4, lk i5⟩, rfl, lk i6, lk i7, lk i8, xd ++ [c], xs, by rw [x1]; simp, by simp, ?_⟩
                      rw [hstep]; exact lk x3
                · rintro V5 M5 ⟨⟨⟨i1, i2, i3⟩, i4, i5⟩, rfl, i6, i7, i8, xd, xs, x1, x2, x3⟩
                  have x2' : (body.map fun c => PV.str ⟨#[c]⟩) = (xd.map fun c => PV.str ⟨#[c]⟩) := x2
                  have hxs : xs = [] := by
                    have := congrArg List.length x2'
                    rw [x1] at this
                    simp at this
                    exact this
                  subst hxs
                  rw [List.append_nil] at x1
                  subst x1
                  refine EX.cons (EX1.ite (b := decide (greedy u e0 b body = e0) && !body.contains 115) (ET.of_eq (ET.bool (AllT.and (ET.cmp (EV.local rfl x3) (EV.local rfl i7) Bi.eq_int rfl) fun _ => AllT.and (ET.cmp EV.cstr (EV.local rfl i8) Bi.notIn_str rfl) fun _ => AllT.and_nil)) ?_) (fun hq => ?_) (fun hq => EX.nil ?_))
                  · rw [Bool.and_true, str_s', contains_ch]
                    congr 1
                    rw [Bool.eq_iff_iff, beq_iff_eq, decide_eq_true_iff]; omega
                  · have hd1 : dueP lb rb bodies u = true := by
                      rw [hdue, q1, List.any_append, List.any_cons, hq]; simp
                    refine EX.cons (EX1.appendG (M₁ := []) (M₂ := []) (EV.local rfl i4) rfl (EV.local rfl i5) (by rw [List.length_map]; exact le_size (by omega)) rfl rfl rfl rfl ?_)
                    refine EX.cons (EX1.brk ?_)
                    exact ⟨rfl, ⟨⟨i1, i2, i3⟩, i4, i5⟩, congrArg (fun z => [(a, MO.list z)]) (hyes hd1)⟩
                  · refine EX.nil ⟨⟨⟨i1, i2, i3⟩, i4, i5⟩, rfl, i6, i7, pd ++ [body], ps, by rw [q1]; simp, by simp [wPV], ?_⟩
                    rw [List.any_append, q3]; simpa using hq
            · rintro V4 M4 ⟨hj2, rfl, i6, i7, pd, ps, q1, q2, q3⟩
              have hps : ps = [] := by
                have := congrArg List.length q2
                rw [q1] at this
                simp at this
                exact this
              subst hps
              rw [List.append_nil] at q1
              rw [← q1, ← hdue] at q3
              exact ⟨rfl, hj2, hno q3⟩
          · rintro fl V4 M4 ⟨rfl, ⟨hj, i4, i5⟩, rfl⟩
            exact EX.nil ⟨hj, i4, dn ++ [u], rs, by rw [d1]; simp, by simp [wPV], rfl⟩
  · rintro V' M' ⟨⟨j1, j2, j3⟩, j4, dn, rs, d1, d2, rfl⟩
    have hrs : rs = [] := by
      have := congrArg List.length d2
      rw [d1] at this
      simp at this
      exact this
    subst hrs
    rw [List.append_nil] at d1
    exact EX.cons (EX1.retOwn (EV.local rfl j4) (List.mem_singleton.mpr rfl) (.inl (by rw [hres, d1])))
end Mine

/-! PlainX -/
namespace Mine
open PySem PySem.W PySem.Calls PyProof.Rows PySem.Builtin
set_option Elab.async false
set_option maxRecDepth 100000
set_option maxHeartbeats 4000000

/-- a rule's parts laid about two texts, by letters -/
def putB : List Nat → List Nat → List Nat → List Nat
  | [], _, _ => []
  | c :: r, i, o => if c = 115 then i ++ putB r o o else c :: putB r i o
theorem put_in : ∀ {b i o : List Nat} {c : Nat}, c ∈ b → c ≠ 115 → c ∈ putB b i o
  | [], _, _, _, h, _ => absurd h List.not_mem_nil
  | d :: b, i, o, c, h, n => by
    unfold putB
    split
    · rename_i q
      rcases List.mem_cons.mp h with rfl | h
      · exact absurd q n
      · exact List.mem_append_right _ (put_in h n)
    · rcases List.mem_cons.mp h with rfl | h
      · exact List.mem_cons_self
      · exact List.mem_cons_of_mem _ (put_in h n)
theorem put_one : ∀ {b i o : List Nat}, 115 ∈ b → i.Sublist (putB b i o)
  | [], _, _, h => absurd h List.not_mem_nil
  | d :: b, i, o, h => by
    unfold putB
    split
    · exact List.sublist_append_left _ _
    · rename_i q
      rcases List.mem_cons.mp h with rfl | h
      · exact absurd rfl q
      · exact (put_one h).cons _
theorem put_two : ∀ {b i o : List Nat}, 1 < b.count 115 → (i ++ o).Sublist (putB b i o)
  | [], _, _, h => by simp at h
  | d :: b, i, o, h => by
    unfold putB
    split
    · rename_i q
      subst q
      rw [List.count_cons_self] at h
      exact (List.Sublist.refl i).append (put_one (List.count_pos_iff.mp (by omega)))
    · rename_i q
      rw [List.count_cons_of_ne q] at h
      exact (put_two h).cons _
theorem put_mem : ∀ {b i o : List Nat} {c : Nat}, c ∈ putB b i o → c ∈ b ∨ c ∈ i ∨ c ∈ o
  | [], _, _, _, h => absurd h List.not_mem_nil
  | d :: b, i, o, c, h => by
    unfold putB at h
    split at h
    · rcases List.mem_append.mp h with h | h
      · exact .inr (.inl h)
      · rcases put_mem h with h | h | h
        · exact .inl (List.mem_cons_of_mem _ h)
        · exact .inr (.inr h)
        · exact .inr (.inr h)
    · rcases List.mem_cons.mp h with rfl | h
      · exact .inl List.mem_cons_self
      · rcases put_mem h with h | h | h
        · exact .inl (List.mem_cons_of_mem _ h)
        · exact .inr (.inl h)
        · exact .inr (.inr h)
theorem put_none : ∀ {b i o : List Nat}, 115 ∉ b → putB b i o = b
  | [], _, _, _ => rfl
  | d :: b, i, o, h => by
    unfold putB
    rw [if_neg (fun q : d = 115 => h (by rw [q]; exact List.mem_cons_self)), put_none fun q => h (List.mem_cons_of_mem _ q)]
theorem take_all {p : Nat → Bool} : ∀ {l : List Nat}, (∀ c ∈ l, p c = true) → l.takeWhile p = l
  | [], _ => rfl
  | c :: l, h => by rw [List.takeWhile_cons, if_pos (h c List.mem_cons_self), take_all fun d hd => h d (List.mem_cons_of_mem _ hd)]
theorem put_line : ∀ {b i : List Nat}, b.count 115 = 1 → putB b i [] = lftB b ++ (i ++ rgtB b)
  | [], _, h => by simp at h
  | d :: b, i, h => by
    unfold putB lftB rgtB
    by_cases q : d = 115
    · subst q
      rw [List.count_cons_self] at h
      have hn : 115 ∉ b := List.count_eq_zero.mp (by omega)
      have e : b.takeWhile (· != 115) = b := by
        refine take_all fun x hx => ?_
        have : x ≠ 115 := fun z => hn (z ▸ hx)
        simpa using this
      rw [if_pos rfl, put_none hn]
      simp [e]
    · rw [List.count_cons_of_ne q] at h
      rw [if_neg q, put_line h]
      simp [lftB, rgtB, q]
abbrev exitsB (B : List (List Nat)) : List (List Nat) := B.filter fun b => b.count 115 == 0
abbrev linesB (B : List (List Nat)) : List (List Nat) := B.filter fun b => b.count 115 == 1
abbrev forksB (B : List (List Nat)) : List (List Nat) := B.filter fun b => decide (1 < b.count 115)
def wrap1B (ls : List (List Nat)) (t : List Nat) : List Nat := ls.foldl (fun t b => putB b t []) t
def wrapNB (ls : List (List Nat)) : Nat → List Nat → List Nat
  | 0, t => t
  | n + 1, t => wrap1B ls (wrapNB ls n t)
abbrev sentsB (B : List (List Nat)) : List (List Nat) := (exitsB B).map (wrapNB (linesB B) (if (forksB B).isEmpty then 3 else 1))
abbrev f0B (B : List (List Nat)) : List Nat := (forksB B).headD []
abbrev wA (B : List (List Nat)) : List Nat := (sentsB B).tail.foldl (fun w t => putB (f0B B) w t) ((sentsB B).headD [])
abbrev wB (B : List (List Nat)) : List Nat := (forksB B).foldl (fun w b => putB b w ((exitsB B).headD [])) (wA B)
def outB (B : List (List Nat)) : List (List Nat) := if (forksB B).isEmpty then sentsB B else [putB (f0B B) (wB B) (putB (f0B B) (wB B) (wB B))]

/-- the rules' lines laid about a text -/
theorem wrap1_eq : ∀ (ls : List (List Nat)) (t : List Nat), (∀ b ∈ ls, b.count 115 = 1) → ∃ X Y, wrap1B ls t = X ++ (t ++ Y) ∧ (∀ c, c ∈ X ↔ c ∈ (ls.map lftB).flatten) ∧ (∀ c, c ∈ Y ↔ c ∈ (ls.map rgtB).flatten)
  | [], t, _ => ⟨[], [], by simp [wrap1B], by simp, by simp⟩
  | b :: ls, t, h => by
    obtain ⟨X, Y, e, hx, hy⟩ := wrap1_eq ls (putB b t []) fun x hx => h x (List.mem_cons_of_mem _ hx)
    refine ⟨X ++ lftB b, rgtB b ++ Y, ?_, fun c => ?_, fun c => ?_⟩
    · have : wrap1B (b :: ls) t = wrap1B ls (putB b t []) := rfl
      rw [this, e, put_line (h b List.mem_cons_self)]; simp
    · rw [List.mem_append, hx, List.map_cons, List.flatten_cons, List.mem_append]; exact Or.comm
    · rw [List.mem_append, hy, List.map_cons, List.flatten_cons, List.mem_append]
theorem wrapN_eq {ls : List (List Nat)} (h : ∀ b ∈ ls, b.count 115 = 1) (t : List Nat) : ∀ n, ∃ X Y, wrapNB ls n t = X ++ (t ++ Y) ∧ (∀ c ∈ X, c ∈ (ls.map lftB).flatten) ∧ (∀ c ∈ Y, c ∈ (ls.map rgtB).flatten) ∧
    (∀ u : List Nat, u.length ≤ n → (∀ c ∈ u, c ∈ (ls.map lftB).flatten) → u.Sublist X) ∧ (∀ u : List Nat, u.length ≤ n → (∀ c ∈ u, c ∈ (ls.map rgtB).flatten) → u.Sublist Y)
  | 0 => ⟨[], [], by simp [wrapNB], by simp, by simp, fun u hu _ => by rw [List.length_eq_zero_iff.mp (by omega : u.length = 0)]; exact List.Sublist.refl _, fun u hu _ => by rw [List.length_eq_zero_iff.mp (by omega : u.length = 0)]; exact List.Sublist.refl _⟩
  | n + 1 => by
    obtain ⟨X, Y, e, h1, h2, h3, h4⟩ := wrapN_eq h t n
    obtain ⟨X1, Y1, e1, g1, g2⟩ := wrap1_eq ls (wrapNB ls n t) h
    refine ⟨X1 ++ X, Y ++ Y1, ?_, fun c hc => ?_, fun c hc => ?_, fun u hu hm => ?_, fun u hu hm => ?_⟩
    · show wrap1B ls (wrapNB ls n t) = _
      rw [e1, e]; simp
    · rcases List.mem_append.mp hc with q | q
      · exact (g1 c).mp q
      · exact h1 c q
    · rcases List.mem_append.mp hc with q | q
      · exact h2 c q
      · exact (g2 c).mp q
    · cases u with
      | nil => exact List.nil_sublist _
      | cons c u =>
        have a1 : [c].Sublist X1 := List.singleton_sublist.mpr ((g1 c).mpr (hm c List.mem_cons_self))
        have a2 := h3 u (by simpa using hu) fun d hd => hm d (List.mem_cons_of_mem _ hd)
        exact a1.append a2
    · rcases List.eq_nil_or_concat u with rfl | ⟨v, c, rfl⟩
      · exact List.nil_sublist _
      · rw [List.concat_eq_append] at hu hm ⊢
        have a1 : [c].Sublist Y1 := List.singleton_sublist.mpr ((g2 c).mpr (hm c (by simp)))
        have a2 := h4 v (by simpa using hu) fun d hd => hm d (by simp [hd])
        exact a2.append a1
theorem greedy_iff {w : List Nat} {e : Nat} (he : e ≤ w.length) : ∀ (body : List Nat) (b : Nat), b ≤ e → (greedy w e b body = e ↔ ((w.drop b).take (e - b)).Sublist body)
  | [], b, hb => by
    show b = e ↔ _
    rw [List.sublist_nil]
    constructor
    · rintro rfl; simp
    · intro h
      have := congrArg List.length h
      rw [List.length_take, List.length_drop] at this
      simp at this; omega
  | c :: body, b, hb => by
    have e1 : greedy w e b (c :: body) = greedy w e (if b < e ∧ w.getD b 0 = c then b + 1 else b) body := rfl
    rw [e1]
    by_cases hbe : b < e
    · have hbw : b < w.length := by omega
      have hsl : (w.drop b).take (e - b) = w.getD b 0 :: (w.drop (b + 1)).take (e - (b + 1)) := by
        rw [List.drop_eq_getElem_cons hbw, show e - b = (e - (b + 1)) + 1 by omega, List.take_succ_cons, List.getD_eq_getElem?_getD, List.getElem?_eq_getElem hbw]; rfl
      by_cases hc : w.getD b 0 = c
      · rw [if_pos ⟨hbe, hc⟩, greedy_iff he body (b + 1) (by omega), hsl, hc, List.cons_sublist_cons]
      · rw [if_neg (fun z => hc z.2), greedy_iff he body b hb, hsl]
        constructor
        · exact fun z => z.cons _
        · intro z
          rcases List.sublist_cons_iff.mp z with z | ⟨r, z1, z2⟩
          · exact z
          · exact absurd (List.cons.inj z1).1 hc
    · have : b = e := by omega
      subst this
      rw [if_neg (fun z => hbe z.1), greedy_iff he body b (Nat.le_refl _)]
      simp
/-- what is left of a word -/
abbrev midB (l r w : List Nat) : List Nat := (w.drop (twL l w)).take (w.length - trR r w (twL l w) - twL l w)
theorem dueP_iff {l r w : List Nat} {B : List (List Nat)} : dueP l r B w = true ↔ ∃ b ∈ B, (midB l r w).Sublist b ∧ 115 ∉ b := by
  have h1 := twL_le l w
  have h2 := trR_le r w (twL l w)
  unfold dueP
  rw [List.any_eq_true]
  constructor
  · rintro ⟨b, hb, h⟩
    rw [Bool.and_eq_true, decide_eq_true_iff, greedy_iff (by omega) b _ (by omega)] at h
    exact ⟨b, hb, h.1, by simpa using h.2⟩
  · rintro ⟨b, hb, h3, h4⟩
    refine ⟨b, hb, ?_⟩
    rw [Bool.and_eq_true, decide_eq_true_iff, greedy_iff (by omega) b _ (by omega)]
    exact ⟨h3, by simpa using h4⟩
theorem mem_take {p : Nat → Bool} : ∀ {l : List Nat} {c : Nat}, c ∈ l.takeWhile p → p c = true
  | [], _, h => by simp at h
  | d :: l, c, h => by
    rw [List.takeWhile_cons] at h
    split at h
    · rename_i q
      rcases List.mem_cons.mp h with rfl | h
      · exact q
      · exact mem_take h
    · cases h
/-- a word in three: what is stripped, what is left -/
theorem word_split (l r w : List Nat) : ∃ u v, w = u ++ (midB l r w ++ v) ∧ (∀ c ∈ u, c ∈ l) ∧ (∀ c ∈ v, c ∈ r) := by
  have h1 := twL_le l w
  have h2 := trR_le r w (twL l w)
  refine ⟨w.take (twL l w), (w.drop (twL l w)).drop (w.length - trR r w (twL l w) - twL l w), ?_, fun c hc => ?_, fun c hc => ?_⟩
  · rw [List.take_append_drop, List.take_append_drop]
  · have e : w.take (twL l w) = w.takeWhile fun c => l.contains c := by
      have hp := List.takeWhile_prefix (l := w) (fun c => l.contains c)
      exact (List.prefix_iff_eq_take.mp hp).symm
    rw [e] at hc
    exact List.contains_iff_mem.mp (mem_take hc)
  · generalize hd : w.drop (twL l w) = d at *
    have hdl : d.length = w.length - twL l w := by rw [← hd, List.length_drop]
    have e : d.drop (w.length - trR r w (twL l w) - twL l w) = (d.reverse.takeWhile fun c => r.contains c).reverse := by
      have hp := List.takeWhile_prefix (l := d.reverse) (fun c => r.contains c)
      have he : d.reverse.takeWhile (fun c => r.contains c) = d.reverse.take (trR r w (twL l w)) := by
        have : trR r w (twL l w) = (d.reverse.takeWhile fun c => r.contains c).length := by unfold trR; rw [hd]
        rw [this]; exact List.prefix_iff_eq_take.mp hp
      rw [he, List.take_reverse, List.reverse_reverse]
      congr 1; omega
    rw [e, List.mem_reverse] at hc
    exact List.contains_iff_mem.mp (mem_take hc)
/-- stripping takes at least that -/
theorem mid_least {l r w u m v : List Nat} (e : w = u ++ (m ++ v)) (hu : ∀ c ∈ u, c ∈ l) (hv : ∀ c ∈ v, c ∈ r) : (midB l r w).Sublist m := by
  have hb : u.length ≤ twL l w := by
    unfold twL
    rw [e, List.takeWhile_append_of_pos (fun c hc => List.contains_iff_mem.mpr (hu c hc)), List.length_append]; omega
  have h1 := twL_le l w
  have hlen := congrArg List.length e
  rw [List.length_append, List.length_append] at hlen
  unfold midB
  generalize hbb : twL l w = b at *
  by_cases hq : b ≤ u.length + m.length
  · have ht : v.length ≤ trR r w b := by
      unfold trR
      have : w.drop b = (m.drop (b - u.length)) ++ v := by
        rw [e, ← List.append_assoc, List.drop_append_of_le_length (by rw [List.length_append]; omega), List.drop_append, List.drop_of_length_le hb, List.nil_append]
      rw [this, List.reverse_append, List.takeWhile_append_of_pos (fun c hc => List.contains_iff_mem.mpr (hv c (List.mem_reverse.mp hc))), List.length_append, List.length_reverse]; omega
    have hd : w.drop b = (m.drop (b - u.length)) ++ v := by
      rw [e, ← List.append_assoc, List.drop_append_of_le_length (by rw [List.length_append]; omega), List.drop_append, List.drop_of_length_le hb, List.nil_append]
    rw [hd, List.take_append_of_le_length (by rw [List.length_drop]; omega)]
    exact (List.take_sublist _ _).trans (List.drop_sublist _ _)
  · have hd : w.drop b = v.drop (b - (u.length + m.length)) := by
      rw [e, ← List.append_assoc, List.drop_append, List.drop_of_length_le (by rw [List.length_append]; omega), List.nil_append, List.length_append]
    have ht : trR r w b = w.length - b := by
      unfold trR
      rw [take_all (fun c hc => ?_), List.length_reverse, List.length_drop]
      rw [hd] at hc
      exact List.contains_iff_mem.mpr (hv c ((List.drop_sublist _ _).subset (List.mem_reverse.mp hc)))
    rw [ht, show w.length - (w.length - b) - b = 0 by omega, List.take_zero]
    exact List.nil_sublist _
theorem no_fork {B : List (List Nat)} (h : manyB B = false) : (∀ b ∈ B, b.count 115 ≤ 1) ∧ (forksB B) = [] := by
  unfold manyB at h
  rw [List.any_eq_false] at h
  have h1 : ∀ b ∈ B, b.count 115 ≤ 1 := fun b hb => by have := h b hb; simpa using this
  refine ⟨h1, List.filter_eq_nil_iff.mpr fun b hb => by have := h1 b hb; simpa using this⟩
theorem haines_a {B : List (List Nat)} (hm : manyB B = false) {w : List Nat} (hw : w.length ≤ 3) : ((outB B).any fun t => w.isSublist t) = dueP (leftB B) (rightB B) B w := by
  obtain ⟨h1, h2⟩ := no_fork hm
  have hl : linesB B = B.filter fun b => b.contains 115 := List.filter_congr fun b hb => by
    have := h1 b hb
    rw [Bool.eq_iff_iff, beq_iff_eq, List.contains_iff_mem, ← List.count_pos_iff]; omega
  have hcnt : ∀ b ∈ linesB B, b.count 115 = 1 := fun b hb => eq_of_beq (List.mem_filter.mp hb).2
  have hout : outB B = (exitsB B).map (wrapNB (linesB B) 3) := by unfold outB sentsB; rw [h2]; rfl
  have e1 : ((linesB B).map lftB).flatten = leftB B := by rw [hl]
  have e2 : ((linesB B).map rgtB).flatten = rightB B := by rw [hl]
  rw [hout, Bool.eq_iff_iff, dueP_iff, List.any_eq_true]
  constructor
  · rintro ⟨t, ht, hs⟩
    obtain ⟨x, hx, rfl⟩ := List.mem_map.mp ht
    obtain ⟨X, Y, e, g1, g2, _, _⟩ := wrapN_eq hcnt x 3
    rw [e1] at g1
    rw [e2] at g2
    have hs' := List.isSublist_iff_sublist.mp hs
    rw [e] at hs'
    obtain ⟨u, r, rfl, hu, hr⟩ := List.sublist_append_iff.mp hs'
    obtain ⟨m, v, rfl, hm', hv⟩ := List.sublist_append_iff.mp hr
    obtain ⟨hx1, hx2⟩ := List.mem_filter.mp hx
    refine ⟨x, hx1, (mid_least rfl (fun c hc => g1 c (hu.subset hc)) (fun c hc => g2 c (hv.subset hc))).trans hm', ?_⟩
    exact List.count_eq_zero.mp (eq_of_beq hx2)
  · rintro ⟨b, hb, hs, hn⟩
    obtain ⟨X, Y, e, _, _, g3, g4⟩ := wrapN_eq hcnt b 3
    rw [e1] at g3
    rw [e2] at g4
    obtain ⟨u, v, ew, hu, hv⟩ := word_split (leftB B) (rightB B) w
    have hlen := congrArg List.length ew
    rw [List.length_append, List.length_append] at hlen
    refine ⟨wrapNB (linesB B) 3 b, List.mem_map.mpr ⟨b, List.mem_filter.mpr ⟨hb, by rw [List.count_eq_zero.mpr hn]; rfl⟩, rfl⟩, List.isSublist_iff_sublist.mpr ?_⟩
    rw [e, ew]
    exact (g3 u (by omega) hu).append (hs.append (g4 v (by omega) hv))
/-- a fork: the text holds each letter -/
theorem wrap1_keeps : ∀ (ls : List (List Nat)) (t : List Nat), (∀ b ∈ ls, 115 ∈ b) → t.Sublist (wrap1B ls t) ∧ ∀ b ∈ ls, ∀ c ∈ b, c ≠ 115 → c ∈ wrap1B ls t
  | [], t, _ => ⟨List.Sublist.refl _, fun b hb => absurd hb List.not_mem_nil⟩
  | b :: ls, t, h => by
    obtain ⟨a1, a2⟩ := wrap1_keeps ls (putB b t []) fun x hx => h x (List.mem_cons_of_mem _ hx)
    refine ⟨(put_one (h b List.mem_cons_self)).trans a1, fun x hx c hc hn => ?_⟩
    rcases List.mem_cons.mp hx with rfl | q
    · exact a1.subset (put_in hc hn)
    · exact a2 x q c hc hn
theorem foldA_keeps {f : List Nat} (hf : 1 < f.count 115) : ∀ (ts : List (List Nat)) (w : List Nat), w.Sublist (ts.foldl (fun w t => putB f w t) w) ∧ ∀ t ∈ ts, t.Sublist (ts.foldl (fun w t => putB f w t) w)
  | [], w => ⟨List.Sublist.refl _, fun b hb => absurd hb List.not_mem_nil⟩
  | t :: ts, w => by
    obtain ⟨a1, a2⟩ := foldA_keeps hf ts (putB f w t)
    have h2 := put_two (i := w) (o := t) hf
    refine ⟨((List.sublist_append_left _ _).trans h2).trans a1, fun x hx => ?_⟩
    rcases List.mem_cons.mp hx with rfl | q
    · exact ((List.sublist_append_right _ _).trans h2).trans a1
    · exact a2 x q
theorem foldB_keeps {e : List Nat} : ∀ (rs : List (List Nat)) (w : List Nat), (∀ b ∈ rs, 115 ∈ b) → w.Sublist (rs.foldl (fun w b => putB b w e) w) ∧ ∀ b ∈ rs, ∀ c ∈ b, c ≠ 115 → c ∈ rs.foldl (fun w b => putB b w e) w
  | [], w, _ => ⟨List.Sublist.refl _, fun b hb => absurd hb List.not_mem_nil⟩
  | b :: rs, w, h => by
    obtain ⟨a1, a2⟩ := foldB_keeps (e := e) rs (putB b w e) fun x hx => h x (List.mem_cons_of_mem _ hx)
    refine ⟨(put_one (h b List.mem_cons_self)).trans a1, fun x hx c hc hn => ?_⟩
    rcases List.mem_cons.mp hx with rfl | q
    · exact a1.subset (put_in hc hn)
    · exact a2 x q c hc hn
theorem fold_mem {α : Type} {f : List Nat → α → List Nat} {P : Nat → Prop} : ∀ (xs : List α) (w : List Nat), (∀ c ∈ w, P c) → (∀ w x, x ∈ xs → (∀ c ∈ w, P c) → ∀ c ∈ f w x, P c) → ∀ c ∈ xs.foldl f w, P c
  | [], _, h, _ => h
  | x :: xs, w, h, k => fold_mem xs _ (k w x List.mem_cons_self h) fun w y hy => k w y (List.mem_cons_of_mem _ hy)
theorem three_in {W w : List Nat} (hw : w.length ≤ 3) (h : ∀ c ∈ w, c ∈ W) : w.Sublist (W ++ (W ++ W)) := by
  have one : ∀ c, c ∈ W → [c].Sublist W := fun c hc => List.singleton_sublist.mpr hc
  match w, hw, h with
  | [], _, _ => exact List.nil_sublist _
  | [a], _, h => exact (one a (h a (by simp))).trans (List.sublist_append_left _ _)
  | [a, b], _, h => exact (one a (h a (by simp))).append ((one b (h b (by simp))).trans (List.sublist_append_left _ _))
  | [a, b, c], _, h => exact (one a (h a (by simp))).append ((one b (h b (by simp))).append (one c (h c (by simp))))
theorem haines_b {B : List (List Nat)} (hm : manyB B = true) (hex : exitsB B ≠ []) {w : List Nat} (hw : w.length ≤ 3) (hn : ∀ c ∈ w, c ≠ 115) : ((outB B).any fun t => w.isSublist t) = (w.filter fun c => !B.flatten.contains c).isEmpty := by
  obtain ⟨f0, fs, hf⟩ : ∃ f0 fs, forksB B = f0 :: fs := by
    cases hq : forksB B with
    | nil =>
      exfalso
      unfold manyB at hm
      obtain ⟨b, hb, hc⟩ := List.any_eq_true.mp hm
      have : b ∈ forksB B := List.mem_filter.mpr ⟨hb, hc⟩
      rw [hq] at this
      cases this
    | cons x xs => exact ⟨x, xs, rfl⟩
  have hf0 : f0B B = f0 := by unfold f0B; rw [hf]; rfl
  have hfm : ∀ b ∈ forksB B, b ∈ B ∧ 1 < b.count 115 := fun b hb => ⟨(List.mem_filter.mp hb).1, of_decide_eq_true (List.mem_filter.mp hb).2⟩
  have hf0m := hfm f0 (by rw [hf]; exact List.mem_cons_self)
  have hout : outB B = [putB f0 (wB B) (putB f0 (wB B) (wB B))] := by unfold outB; rw [hf0, hf]; rfl
  have hne : (forksB B).isEmpty = false := by rw [hf]; rfl
  have hs : sentsB B = (exitsB B).map (wrapNB (linesB B) 1) := by unfold sentsB; rw [hne]; rfl
  obtain ⟨x0, xs, hx⟩ : ∃ x0 xs, exitsB B = x0 :: xs := by
    cases hq : exitsB B with
    | nil => exact absurd hq hex
    | cons x xs => exact ⟨x, xs, rfl⟩
  have hss : sentsB B = wrap1B (linesB B) x0 :: xs.map (wrapNB (linesB B) 1) := by rw [hs, hx]; rfl
  have hlm : ∀ b ∈ linesB B, b ∈ B ∧ 115 ∈ b := fun b hb => ⟨(List.mem_filter.mp hb).1, List.count_pos_iff.mp (by rw [eq_of_beq (List.mem_filter.mp hb).2]; exact Nat.one_pos)⟩
  have hA := foldA_keeps hf0m.2 (sentsB B).tail ((sentsB B).headD [])
  have hB := foldB_keeps (e := (exitsB B).headD []) (forksB B) (wA B) fun b hb => List.count_pos_iff.mp (by have := (hfm b hb).2; omega)
  have hA' : (∀ t ∈ sentsB B, t.Sublist (wA B)) := fun t ht => by
    unfold wA
    rw [hf0]
    rw [hss] at ht
    rcases List.mem_cons.mp ht with rfl | q
    · have := hA.1; rw [hss] at this ⊢; exact this
    · have := hA.2 t (by rw [hss]; exact q); exact this
  have hsent : ∀ x ∈ exitsB B, wrap1B (linesB B) x ∈ sentsB B := fun x hx => by rw [hs]; exact List.mem_map.mpr ⟨x, hx, rfl⟩
  have hall : ∀ c, c ∈ B.flatten → c ≠ 115 → c ∈ wB B := by
    intro c hc hcn
    obtain ⟨b, hb, hcb⟩ := List.mem_flatten.mp hc
    by_cases h0 : b.count 115 = 0
    · have hbx : b ∈ exitsB B := List.mem_filter.mpr ⟨hb, by rw [h0]; rfl⟩
      have k := wrap1_keeps (linesB B) b fun x hx => (hlm x hx).2
      exact hB.1.subset ((hA' _ (hsent b hbx)).subset (k.1.subset hcb))
    · by_cases h1 : b.count 115 = 1
      · have hbl : b ∈ linesB B := List.mem_filter.mpr ⟨hb, by rw [h1]; rfl⟩
        have k := wrap1_keeps (linesB B) x0 fun x hx => (hlm x hx).2
        exact hB.1.subset ((hA' _ (hsent x0 (by rw [hx]; exact List.mem_cons_self))).subset (k.2 b hbl c hcb hcn))
      · exact hB.2 b (List.mem_filter.mpr ⟨hb, decide_eq_true (by omega)⟩) c hcb hcn
  have hback : ∀ c ∈ putB f0 (wB B) (putB f0 (wB B) (wB B)), c ∈ B.flatten := by
    have inB : ∀ b ∈ B, ∀ c ∈ b, c ∈ B.flatten := fun b hb c hc => List.mem_flatten.mpr ⟨b, hb, hc⟩
    have hexm : ∀ x ∈ exitsB B, ∀ c ∈ x, c ∈ B.flatten := fun x hx => inB x (List.mem_filter.mp hx).1
    have hwr : ∀ x ∈ exitsB B, ∀ c ∈ wrap1B (linesB B) x, c ∈ B.flatten := fun x hx => by
      unfold wrap1B
      exact fold_mem (P := fun c => c ∈ B.flatten) (linesB B) x (hexm x hx) fun w b hb hw c hc => by
        rcases put_mem hc with q | q | q
        · exact inB b (hlm b hb).1 c q
        · exact hw c q
        · cases q
    have hse : ∀ t ∈ sentsB B, ∀ c ∈ t, c ∈ B.flatten := fun t ht => by
      rw [hs] at ht
      obtain ⟨x, hx, rfl⟩ := List.mem_map.mp ht
      exact hwr x hx
    have hwA : ∀ c ∈ wA B, c ∈ B.flatten := by
      unfold wA
      refine fold_mem (P := fun c => c ∈ B.flatten) _ _ (fun c hc => ?_) fun w t ht hw c hc => ?_
      · rw [hss] at hc
        exact hse _ (by rw [hss]; exact List.mem_cons_self) c hc
      · rcases put_mem hc with q | q | q
        · rw [hf0] at q; exact inB f0 hf0m.1 c q
        · exact hw c q
        · exact hse t (List.mem_of_mem_tail ht) c q
    have hwB : ∀ c ∈ wB B, c ∈ B.flatten := by
      unfold wB
      refine fold_mem (P := fun c => c ∈ B.flatten) _ _ hwA fun w b hb hw c hc => ?_
      rcases put_mem hc with q | q | q
      · exact inB b (hfm b hb).1 c q
      · exact hw c q
      · rw [hx] at q; exact hexm x0 (by rw [hx]; exact List.mem_cons_self) c q
    intro c hc
    rcases put_mem hc with q | q | q
    · exact inB f0 hf0m.1 c q
    · exact hwB c q
    · rcases put_mem q with q | q | q
      · exact inB f0 hf0m.1 c q
      · exact hwB c q
      · exact hwB c q
  rw [hout, Bool.eq_iff_iff, List.isEmpty_iff, List.filter_eq_nil_iff]
  simp only [List.any_cons, List.any_nil, Bool.or_false, Bool.not_eq_true', Bool.not_eq_false]
  rw [List.isSublist_iff_sublist]
  constructor
  · intro h c hc
    exact List.contains_iff_mem.mpr (hback c (h.subset hc))
  · intro h
    have h3 := three_in hw (W := wB B) fun c hc => hall c (List.contains_iff_mem.mp (h c hc)) (hn c hc)
    have k1 := put_two (i := wB B) (o := wB B) hf0m.2
    have k2 := put_two (i := wB B) (o := putB f0 (wB B) (wB B)) hf0m.2
    exact h3.trans (((List.Sublist.refl _).append k1).trans k2)
end Mine

/-! PlainY -/
namespace Mine
open PySem PySem.W PySem.Calls PyProof.Rows PySem.Builtin
set_option Elab.async false
set_option maxRecDepth 100000
set_option maxHeartbeats 4000000

def symB (sg : Nat → List Nat) (c : Nat) : Sy := if c = 115 then .n 115 else .t (sg c)
abbrev rowB (sg : Nat → List Nat) (b : List Nat) : List Sy := b.map (symB sg)
section
variable {sg : Nat → List Nat}
theorem put_map : ∀ (b i o : List Nat), putW (rowB sg b) (i.map sg) (o.map sg) = (putB b i o).map sg
  | [], _, _ => rfl
  | c :: b, i, o => by
    unfold rowB
    rw [List.map_cons]
    unfold putB
    by_cases h : c = 115
    · rw [show symB sg c = .n 115 from if_pos h, if_pos h, List.map_append]
      show i.map sg ++ putW (rowB sg b) (o.map sg) (o.map sg) = _
      rw [put_map b o o]
    · rw [show symB sg c = .t (sg c) from if_neg h, if_neg h, List.map_cons]
      show sg c :: putW (rowB sg b) (i.map sg) (o.map sg) = _
      rw [put_map b i o]
theorem cnt_map : ∀ (b : List Nat), cntN (rowB sg b) = b.count 115
  | [] => rfl
  | c :: b => by
    have ih := cnt_map b
    show List.countP isN (symB sg c :: rowB sg b) = _
    rw [List.countP_cons, List.count_cons]
    unfold cntN at ih
    rw [ih]
    unfold symB
    by_cases h : c = 115
    · subst h; rfl
    · rw [if_neg h]
      have : (c == 115) = false := by simpa using h
      rw [this]; rfl
theorem filt_map (t : Nat → Bool) (B : List (List Nat)) : ((B.map (rowB sg)).filter fun r => t (cntN r)) = (B.filter fun b => t (b.count 115)).map (rowB sg) := by
  rw [List.filter_map]
  congr 1
  refine List.filter_congr fun b _ => ?_
  show t (cntN (rowB sg b)) = _
  rw [cnt_map]
theorem exits_map (B : List (List Nat)) : exitsR (B.map (rowB sg)) = (exitsB B).map (List.map sg) := by
  unfold exitsR
  rw [filt_map (fun n => n == 0), List.map_map]
  refine List.map_congr_left fun b hb => ?_
  have h0 : b.count 115 = 0 := eq_of_beq (List.mem_filter.mp hb).2
  have := put_map (sg := sg) b [] []
  show putW (rowB sg b) [] [] = _
  rw [show ([] : List (List Nat)) = ([] : List Nat).map sg from rfl, this, put_none (List.count_eq_zero.mp h0)]
theorem lines_map (B : List (List Nat)) : linesR (B.map (rowB sg)) = (linesB B).map (rowB sg) := filt_map (fun n => n == 1) B
theorem forks_map (B : List (List Nat)) : forksR (B.map (rowB sg)) = (forksB B).map (rowB sg) := filt_map (fun n => decide (1 < n)) B
theorem wrap1_map : ∀ (ls : List (List Nat)) (t : List Nat), wrap1 (ls.map (rowB sg)) (t.map sg) = (wrap1B ls t).map sg
  | [], _ => rfl
  | b :: ls, t => by
    have e : wrap1 ((b :: ls).map (rowB sg)) (t.map sg) = wrap1 (ls.map (rowB sg)) (putW (rowB sg b) (t.map sg) ([].map sg)) := rfl
    rw [e, put_map, wrap1_map ls]; rfl
theorem wrapN_map (ls : List (List Nat)) (t : List Nat) : ∀ n, wrapN (ls.map (rowB sg)) n (t.map sg) = (wrapNB ls n t).map sg
  | 0 => rfl
  | n + 1 => by
    show wrap1 _ (wrapN _ n _) = _
    rw [wrapN_map ls t n, wrap1_map]; rfl
theorem sents_map (B : List (List Nat)) : sentsR (B.map (rowB sg)) = (sentsB B).map (List.map sg) := by
  unfold sentsR turnsR sentsB
  rw [exits_map, lines_map, forks_map, List.map_map, List.map_map, List.isEmpty_map]
  exact List.map_congr_left fun t _ => wrapN_map (linesB B) t _
theorem head_map {α β : Type} (f : List α → List β) (hf : f [] = []) (l : List (List α)) : (l.map f).headD [] = f (l.headD []) := by cases l with
  | nil => exact hf.symm
  | cons _ _ => rfl
theorem foldA_map (f : List Nat) : ∀ (ts : List (List Nat)) (w : List Nat), (ts.map (List.map sg)).foldl (fun w t => putW (rowB sg f) w t) (w.map sg) = (ts.foldl (fun w t => putB f w t) w).map sg
  | [], _ => rfl
  | t :: ts, w => by rw [List.map_cons, List.foldl_cons, List.foldl_cons, put_map, foldA_map f ts]
theorem foldB_map (e : List Nat) : ∀ (rs : List (List Nat)) (w : List Nat), (rs.map (rowB sg)).foldl (fun w row => putW row w (e.map sg)) (w.map sg) = (rs.foldl (fun w b => putB b w e) w).map sg
  | [], _ => rfl
  | r :: rs, w => by rw [List.map_cons, List.foldl_cons, List.foldl_cons, put_map, foldB_map e rs]
theorem out_map (B : List (List Nat)) : outR (B.map (rowB sg)) = (outB B).map (List.map sg) := by
  unfold outR outB
  have hA : wholeA (B.map (rowB sg)) = (wA B).map sg := by
    unfold wholeA wA f0R f0B
    rw [sents_map, forks_map, head_map (rowB sg) rfl, head_map (List.map sg) rfl, ← List.map_tail, foldA_map]
  have hB : wholeB (B.map (rowB sg)) = (wB B).map sg := by
    unfold wholeB wB e0R
    rw [hA, forks_map, exits_map, head_map (List.map sg) rfl, foldB_map]
  have h0 : f0R (B.map (rowB sg)) = rowB sg (f0B B) := by
    unfold f0R f0B
    rw [forks_map, head_map (rowB sg) rfl]
  rw [hB, h0, forks_map, List.isEmpty_map, sents_map]
  split
  · rfl
  · rw [put_map, put_map]; rfl
end
theorem put_mem' : ∀ {b i o : List Nat} {c : Nat}, c ∈ putB b i o → (c ∈ b ∧ c ≠ 115) ∨ c ∈ i ∨ c ∈ o
  | [], _, _, _, h => absurd h List.not_mem_nil
  | d :: b, i, o, c, h => by
    unfold putB at h
    split at h
    · rcases List.mem_append.mp h with h | h
      · exact .inr (.inl h)
      · rcases put_mem' h with h | h | h
        · exact .inl ⟨List.mem_cons_of_mem _ h.1, h.2⟩
        · exact .inr (.inr h)
        · exact .inr (.inr h)
    · rename_i q
      rcases List.mem_cons.mp h with rfl | h
      · exact .inl ⟨List.mem_cons_self, q⟩
      · rcases put_mem' h with h | h | h
        · exact .inl ⟨List.mem_cons_of_mem _ h.1, h.2⟩
        · exact .inr (.inl h)
        · exact .inr (.inr h)
theorem out_letters {B : List (List Nat)} {P : Nat → Prop} (hB : ∀ b ∈ B, ∀ c ∈ b, c ≠ 115 → P c) : ∀ t ∈ outB B, ∀ c ∈ t, P c := by
  have hput : ∀ b ∈ B, ∀ i o : List Nat, (∀ c ∈ i, P c) → (∀ c ∈ o, P c) → ∀ c ∈ putB b i o, P c := fun b hb i o hi ho c hc => by
    rcases put_mem' hc with q | q | q
    · exact hB b hb c q.1 q.2
    · exact hi c q
    · exact ho c q
  have hnil : ∀ c ∈ ([] : List Nat), P c := fun c hc => absurd hc List.not_mem_nil
  have hex : ∀ x ∈ exitsB B, ∀ c ∈ x, P c := fun x hx c hc => by
    obtain ⟨h1, h2⟩ := List.mem_filter.mp hx
    exact hB x h1 c hc fun q => List.count_eq_zero.mp (eq_of_beq h2) (q ▸ hc)
  have hw1 : ∀ t : List Nat, (∀ c ∈ t, P c) → ∀ c ∈ wrap1B (linesB B) t, P c := fun t ht => by
    unfold wrap1B
    exact fold_mem (P := P) (linesB B) t ht fun w b hb hw => hput b (List.mem_filter.mp hb).1 w [] hw hnil
  have hwN : ∀ n (t : List Nat), (∀ c ∈ t, P c) → ∀ c ∈ wrapNB (linesB B) n t, P c := fun n => by
    induction n with
    | zero => exact fun t ht => ht
    | succ n ih => exact fun t ht => hw1 _ (ih t ht)
  have hse : ∀ t ∈ sentsB B, ∀ c ∈ t, P c := fun t ht => by
    obtain ⟨x, hx, rfl⟩ := List.mem_map.mp ht
    exact hwN _ x (hex x hx)
  have hf0 : ∀ i o : List Nat, (∀ c ∈ i, P c) → (∀ c ∈ o, P c) → ∀ c ∈ putB (f0B B) i o, P c := fun i o hi ho => by
    cases hq : forksB B with
    | nil =>
      have : f0B B = [] := by unfold f0B; rw [hq]; rfl
      rw [this]; exact hnil
    | cons x xs =>
      have e : f0B B = x := by unfold f0B; rw [hq]; rfl
      have hx : x ∈ forksB B := by rw [hq]; exact List.mem_cons_self
      rw [e]; exact hput x (List.mem_filter.mp hx).1 i o hi ho
  have hwA : ∀ c ∈ wA B, P c := by
    unfold wA
    refine fold_mem (P := P) _ _ (fun c hc => ?_) fun w t ht hw => hf0 w t hw (hse t (List.mem_of_mem_tail ht))
    cases hq : sentsB B with
    | nil => rw [hq] at hc; cases hc
    | cons x xs => rw [hq] at hc; exact hse x (by rw [hq]; exact List.mem_cons_self) c hc
  have hwB : ∀ c ∈ wB B, P c := by
    unfold wB
    refine fold_mem (P := P) _ _ hwA fun w b hb hw => hput b (List.mem_filter.mp hb).1 w _ hw fun c hc => ?_
    cases hq : exitsB B with
    | nil => rw [hq] at hc; cases hc
    | cons x xs => rw [hq] at hc; exact hex x (by rw [hq]; exact List.mem_cons_self) c hc
  intro t ht
  unfold outB at ht
  split at ht
  · exact hse t ht
  · rw [List.mem_singleton.mp ht]
    exact hf0 _ _ hwB (hf0 _ _ hwB hwB)
theorem map_sub3 {sg : Nat → List Nat} (hsg : ∀ c d, (c = 48 ∨ c = 49 ∨ c = 50) → (d = 48 ∨ d = 49 ∨ d = 50) → sg c = sg d → c = d) : ∀ {w v : List Nat}, (∀ c ∈ w, c = 48 ∨ c = 49 ∨ c = 50) → (∀ c ∈ v, c = 48 ∨ c = 49 ∨ c = 50) → ((w.map sg).Sublist (v.map sg) ↔ w.Sublist v) := by
  intro w v hw hv
  constructor
  · intro h
    obtain ⟨l', h1, h2⟩ := List.sublist_map_iff.mp h
    have : w = l' := by
      clear h
      induction w generalizing l' v with
      | nil => cases l' with
        | nil => rfl
        | cons _ _ => cases h2
      | cons a w ih =>
        cases l' with
        | nil => cases h2
        | cons b l' =>
          rw [List.map_cons, List.map_cons] at h2
          obtain ⟨e1, e2⟩ := List.cons.inj h2
          have : a = b := hsg a b (hw a List.mem_cons_self) (hv b (h1.subset List.mem_cons_self)) e1
          rw [this, ih (fun c hc => hw c (List.mem_cons_of_mem _ hc)) hv l' ((List.sublist_cons_self _ _).trans h1) e2]
    rw [this]; exact h1
  · exact fun h => h.map sg
/-- the law, no program in sight -/
theorem haines {sg : Nat → List Nat} (hsg : ∀ c d, (c = 48 ∨ c = 49 ∨ c = 50) → (d = 48 ∨ d = 49 ∨ d = 50) → sg c = sg d → c = d) {B words : List (List Nat)} (hB : ∀ b ∈ B, BodyOk b) (hex : exitsB B ≠ []) (hW : ∀ u ∈ words, (∀ c ∈ u, c = 48 ∨ c = 49 ∨ c = 50) ∧ u.length ≤ 3) :
    (words.filter fun w => (outR (B.map (rowB sg))).any fun ts => (w.map sg).isSublist ts) = dueW B words := by
  have hlet : ∀ t ∈ outB B, ∀ c ∈ t, c = 48 ∨ c = 49 ∨ c = 50 := out_letters fun b hb c hc hn => by
    rcases (hB b hb).c c hc with q | q | q | q
    · exact .inl q
    · exact .inr (.inl q)
    · exact .inr (.inr q)
    · exact absurd q hn
  have hany : ∀ w ∈ words, ((outR (B.map (rowB sg))).any fun ts => (w.map sg).isSublist ts) = (outB B).any fun t => w.isSublist t := fun w hw => by
    rw [out_map, List.any_map, Bool.eq_iff_iff, List.any_eq_true, List.any_eq_true]
    constructor
    · rintro ⟨t, ht, hs⟩
      exact ⟨t, ht, List.isSublist_iff_sublist.mpr ((map_sub3 hsg (hW w hw).1 (hlet t ht)).mp (List.isSublist_iff_sublist.mp hs))⟩
    · rintro ⟨t, ht, hs⟩
      exact ⟨t, ht, List.isSublist_iff_sublist.mpr ((map_sub3 hsg (hW w hw).1 (hlet t ht)).mpr (List.isSublist_iff_sublist.mp hs))⟩
  unfold dueW
  cases hm : manyB B with
  | true =>
    rw [if_pos rfl]
    refine List.filter_congr fun w hw => ?_
    rw [hany w hw, haines_b hm hex (hW w hw).2 fun c hc => by rcases (hW w hw).1 c hc with q | q | q <;> omega]
  | false =>
    rw [if_neg (by decide)]
    refine List.filter_congr fun w hw => ?_
    rw [hany w hw, haines_a hm (hW w hw).2]
end Mine

/-! PlainZ -/
namespace Mine
open PySem PySem.W PySem.Calls PyProof.Rows PySem.Challenge PySem.Builtin
set_option Elab.async false
set_option maxRecDepth 100000
set_option maxHeartbeats 4000000

theorem pickL_map {α β : Type} (f : α → β) (l : List α) (lo hi st : Option Int) : pickL (l.map f) lo hi st = (pickL l lo hi st).map f := by
  unfold pickL
  rw [List.length_map, List.map_filterMap]
  congr 1
  funext i
  rw [List.getElem?_map]
def told2 : List Int := [22, 278, 418, 1, 40]
def cutOf (script : List Int) : List Int := script.map fun x => x.fmod 1000000
def drawAt (script : List Int) (k : Nat) : Int := told2.getD k 0 + (pickL (cutOf script) (some k) none (some 5)).sum
def drawsOf (script : List Int) : List Int := (List.range 5).map (drawAt script)
def firstOf (t : Int) : Int := t.fmod 8
def secondOf (t : Int) : Int := (firstOf t + 1 + (t.fdiv 8).fmod 3).fmod 8
def thirdOf (t : Int) : Int := (secondOf t + 1 + (t.fdiv 24).fmod 3).fmod 8
def signsL : List Str := [Str.ofString "+", Str.ofString "-", Str.ofString "**", Str.ofString "//", Str.ofString "|", Str.ofString "~", Str.ofString "->", Str.ofString "!="]
def signAt (k : Int) : Str := signsL.getD k.toNat ⟨#[]⟩
def spOf (t : Int) : List (Str × Str) := [(Str.ofString "0", signAt (firstOf t)), (Str.ofString "1", signAt (secondOf t)), (Str.ofString "2", signAt (thirdOf t))]
theorem signs_get {k : Int} (h0 : 0 ≤ k) (h1 : k < 8) : (signsL.map PV.str)[k.toNat]? = some (.str (signAt k)) := by
  obtain ⟨n, rfl⟩ := Int.eq_ofNat_of_zero_le h0
  have : n < 8 := by omega
  rw [Int.toNat_natCast, signAt, Int.toNat_natCast]
  match n, this with
  | 0, _ => rfl
  | 1, _ => rfl
  | 2, _ => rfl
  | 3, _ => rfl
  | 4, _ => rfl
  | 5, _ => rfl
  | 6, _ => rfl
  | 7, _ => rfl


theorem sign_ofL {k : Int} (h0 : 0 ≤ k) (h1 : k < 8) : signAt k = ofL (sigC k.toNat) := by
  obtain ⟨n, rfl⟩ := Int.eq_ofNat_of_zero_le h0
  have : n < 8 := by omega
  rw [signAt, Int.toNat_natCast]
  match n, this with
  | 0, _ => decide +kernel
  | 1, _ => decide +kernel
  | 2, _ => decide +kernel
  | 3, _ => decide +kernel
  | 4, _ => decide +kernel
  | 5, _ => decide +kernel
  | 6, _ => decide +kernel
  | 7, _ => decide +kernel
theorem sig_inj : ∀ i, i < 8 → ∀ j, j < 8 → sigC i = sigC j → i = j := by decide
theorem sig_in : ∀ i, i < 8 → sigC i ∈ wordsU := by decide
theorem sig_ok : ∀ i, i < 8 → (sigC i ≠ [] ∧ 32 ∉ sigC i ∧ 46 ∉ sigC i) ∧ letters.contains (sigC i) = false ∧ (sigC i).length ≤ 2 ∧ (∀ c ∈ sigC i, 32 ≤ c ∧ c < 127) := by decide
theorem first_in (t : Int) : 0 ≤ firstOf t ∧ firstOf t < 8 := fmod_in (by decide)
theorem second_in (t : Int) : 0 ≤ secondOf t ∧ secondOf t < 8 := fmod_in (by decide)
theorem third_in (t : Int) : 0 ≤ thirdOf t ∧ thirdOf t < 8 := fmod_in (by decide)
theorem signs_differ (t : Int) : firstOf t ≠ secondOf t ∧ secondOf t ≠ thirdOf t ∧ firstOf t ≠ thirdOf t := by
  have h1 := first_in t
  have h2 := fmod_in (x := t.fdiv 8) (m := 3) (by decide)
  have h3 := fmod_in (x := t.fdiv 24) (m := 3) (by decide)
  unfold thirdOf secondOf
  generalize (t.fdiv 8).fmod 3 = r at *
  generalize (t.fdiv 24).fmod 3 = s at *
  generalize firstOf t = k at *
  rw [Int.fmod_eq_emod_of_nonneg _ (by decide), Int.fmod_eq_emod_of_nonneg _ (by decide)]
  omega
def sgOf (t : Int) (c : Nat) : List Nat := if c = 48 then sigC (firstOf t).toNat else if c = 49 then sigC (secondOf t).toNat else sigC (thirdOf t).toNat
theorem sg_cases (t : Int) (c : Nat) : ∃ i, i < 8 ∧ sgOf t c = sigC i := by
  have h1 := first_in t
  have h2 := second_in t
  have h3 := third_in t
  unfold sgOf
  split
  · exact ⟨_, by omega, rfl⟩
  · split
    · exact ⟨_, by omega, rfl⟩
    · exact ⟨_, by omega, rfl⟩
theorem sg_inj (t : Int) : ∀ c d, (c = 48 ∨ c = 49 ∨ c = 50) → (d = 48 ∨ d = 49 ∨ d = 50) → sgOf t c = sgOf t d → c = d := by
  have h1 := first_in t
  have h2 := second_in t
  have h3 := third_in t
  obtain ⟨n1, n2, n3⟩ := signs_differ t
  have e48 : sgOf t 48 = sigC (firstOf t).toNat := rfl
  have e49 : sgOf t 49 = sigC (secondOf t).toNat := rfl
  have e50 : sgOf t 50 = sigC (thirdOf t).toNat := rfl
  intro c d hc hd h
  rcases hc with rfl | rfl | rfl <;> rcases hd with rfl | rfl | rfl <;> simp only [e48, e49, e50] at h <;> first | rfl | (have := sig_inj _ (by omega) _ (by omega) h; omega)
theorem sg_Sg (t : Int) (c : Nat) : Sg (sgOf t c) ∧ (sgOf t c).length ≤ 2 := by
  obtain ⟨i, hi, e⟩ := sg_cases t c
  rw [e]
  exact ⟨⟨(sig_ok i hi).1.1, (sig_ok i hi).1.2.1, (sig_ok i hi).1.2.2⟩, (sig_ok i hi).2.2.1⟩
theorem sp_look (t : Int) {c : Nat} (hc : c = 48 ∨ c = 49 ∨ c = 50) : (spOf t).lookup (⟨#[c]⟩ : Str) = some (ofL (sgOf t c)) := by
  have h1 := first_in t
  have h2 := second_in t
  have h3 := third_in t
  have e0 : Str.ofString "0" = (⟨#[48]⟩ : Str) := by decide +kernel
  have e1 : Str.ofString "1" = (⟨#[49]⟩ : Str) := by decide +kernel
  have e2 : Str.ofString "2" = (⟨#[50]⟩ : Str) := by decide +kernel
  unfold spOf
  rw [e0, e1, e2, lookup_cons_of, lookup_cons_of, lookup_cons_of, List.lookup_nil]
  rcases hc with rfl | rfl | rfl
  · rw [if_pos rfl, sign_ofL h1.1 h1.2]; rfl
  · rw [if_neg (by rw [one_inj]; decide), if_pos rfl, sign_ofL h2.1 h2.2]; rfl
  · rw [if_neg (by rw [one_inj]; decide), if_neg (by rw [one_inj]; decide), if_pos rfl, sign_ofL h3.1 h3.2]; rfl
theorem spl_of (t : Int) : Spl (spOf t) (sgOf t) := ⟨fun c hc => sp_look t hc, sg_Sg t⟩
def symW (t : Int) (c : Nat) : List Nat := if c = 115 then [115] else sgOf t c
theorem symW_in (t : Int) (c : Nat) : symW t c ∈ wordsU := by
  unfold symW
  split
  · decide
  · obtain ⟨i, hi, e⟩ := sg_cases t c
    rw [e]; exact sig_in i hi
theorem symW_out (t : Int) (c : Nat) : ofL (outL (symW t c)) = (symB (sgOf t) c).str := by
  unfold symW symB
  split
  · rfl
  · obtain ⟨i, hi, e⟩ := sg_cases t c
    unfold outL
    rw [e, (sig_ok i hi).2.1]; rfl
theorem spell_sym (t : Int) {c : Nat} (hc : c = 48 ∨ c = 49 ∨ c = 50 ∨ c = 115) : spell (spOf t) (⟨#[c]⟩ : Str) = ofL (symW t c) := by
  unfold spell
  have hs : ∀ c, (c = 48 ∨ c = 49 ∨ c = 50) → ((spOf t).lookup (⟨#[c]⟩ : Str)).getD ⟨#[c]⟩ = ofL (symW t c) := fun c h => by
    rw [sp_look t h]
    unfold symW
    rw [if_neg (by rcases h with rfl | rfl | rfl <;> decide)]; rfl
  rcases hc with q | q | q | rfl
  · exact hs c (.inl q)
  · exact hs c (.inr (.inl q))
  · exact hs c (.inr (.inr q))
  · have e0 : Str.ofString "0" = (⟨#[48]⟩ : Str) := by decide +kernel
    have e1 : Str.ofString "1" = (⟨#[49]⟩ : Str) := by decide +kernel
    have e2 : Str.ofString "2" = (⟨#[50]⟩ : Str) := by decide +kernel
    unfold spOf
    rw [e0, e1, e2, lookup_cons_of, lookup_cons_of, lookup_cons_of, List.lookup_nil, if_neg (by rw [one_inj]; decide), if_neg (by rw [one_inj]; decide), if_neg (by rw [one_inj]; decide)]
    rfl
theorem val_ofL (t : Int) {b : List Nat} (h : BodyOk b) : valOf (spOf t) (ofL b) = ofL (b.map (symW t)).flatten := by
  apply Str.ext'
  apply Array.toList_inj.mp
  unfold valOf
  rw [show (Str.ofString "" : Str) = Str.ofString "" from rfl, join_none, List.map_map]
  show (List.map _ b).flatten = (b.map (symW t)).flatten
  congr 1
  refine List.map_congr_left fun c hc => ?_
  show (spell (spOf t) (⟨#[c]⟩ : Str)).cps.toList = _
  rw [spell_sym t (h.c c hc)]
theorem tokd_of (t : Int) {b : List Nat} (h : BodyOk b) (f : Bool) : Tokd (b.map (symW t)) f := by
  have hw : ∀ x ∈ b.map (symW t), x ∈ wordsU := fun x hx => by
    obtain ⟨c, _, rfl⟩ := List.mem_map.mp hx
    exact symW_in t c
  have hc := List.all_eq_true.mp chk3 _ (bodies3_mem hw (by rw [List.length_map]; exact h.l))
  rw [Bool.and_eq_true] at hc
  cases f
  · exact tokd (fun x hx => wordsU_in x (hw x hx)) hc.1
  · exact tokd (fun x hx => wordsU_in x (hw x hx)) hc.2
theorem row_ok (t d : Int) {b : List Nat} (h : BodyOk b) : RowOk (spOf t) (d, ofL b) := by
  refine ⟨?_, ?_, ?_, ?_⟩
  · refine joinOk_small (fun x hx => ?_) ?_
    · obtain ⟨c, hc, rfl⟩ := List.mem_map.mp hx
      rw [spell_sym t (h.c c hc)]
      rw [len_ofL]
      unfold symW
      split
      · decide
      · have := (sg_Sg t c).2; omega
    · rw [List.length_map]; show b.length ≤ 1000; have := h.l; omega
  · show b.length ≤ 1000
    have := h.l; omega
  · show PySem.Builtin.Str.tooLong (Txt.upper (valOf (spOf t) (ofL b))).length = false
    rw [val_ofL t h]
    have := (tokd_of t h true).len
    exact too_small (by show (upIf true _).length ≤ _; omega)
  · show Plain (upIf (bit d 384) (valOf (spOf t) (ofL b)))
    rw [val_ofL t h]
    exact (tokd_of t h _).plain
theorem plain_signs (t : Int) : Plain ((signAt (thirdOf t) ++ signAt (secondOf t)) ++ signAt (firstOf t)) := by
  have h1 := first_in t
  have h2 := second_in t
  have h3 := third_in t
  rw [sign_ofL h1.1 h1.2, sign_ofL h2.1 h2.2, sign_ofL h3.1 h3.2, ← ofL_app, ← ofL_app]
  have k1 := sig_ok (firstOf t).toNat (by omega)
  have k2 := sig_ok (secondOf t).toNat (by omega)
  have k3 := sig_ok (thirdOf t).toNat (by omega)
  refine ⟨fun c hc => ?_, ?_⟩
  · rcases List.mem_append.mp (show c ∈ _ ++ _ from hc) with q | q
    · rcases List.mem_append.mp q with q | q
      · exact k3.2.2.2 c q
      · exact k2.2.2.2 c q
    · exact k1.2.2.2 c q
  · rw [len_ofL, List.length_append, List.length_append]
    have := k1.2.2.1
    have := k2.2.2.1
    have := k3.2.2.1
    omega
theorem sign_len (k : Int) (h0 : 0 ≤ k) (h1 : k < 8) : (signAt k).length ≤ 1000 := by
  rw [sign_ofL h0 h1, len_ofL]
  have := (sig_ok k.toNat (by omega)).2.2.1
  omega
/-- the bodies -/
def symN (i : Int) : Nat := [48, 49, 50, 115].getD i.toNat 0
def bodyL (b d : Int) : List Nat := [symN ((d.fdiv 3).fmod b), symN (((d.fdiv 3).fdiv b).fmod b), symN (((d.fdiv 3).fdiv (b ^ 2)).fmod b)].take (1 + d.fmod 3).toNat
def bodyN (ds : List Int) (k : Nat) : List Nat := bodyL (baseOf k) (ds.getD k 0)
abbrev bodsN (ds : List Int) : List (List Nat) := (List.range 5).map (bodyN ds)
theorem sym_ofL {i : Int} (h0 : 0 ≤ i) (h1 : i < 4) : sym2 i = ofL [symN i] := by
  obtain ⟨n, rfl⟩ := Int.eq_ofNat_of_zero_le h0
  have : n < 4 := by omega
  match n, this with
  | 0, _ => decide +kernel
  | 1, _ => decide +kernel
  | 2, _ => decide +kernel
  | 3, _ => decide +kernel
theorem symN_in {i : Int} (h0 : 0 ≤ i) (h1 : i < 4) : symN i = 48 ∨ symN i = 49 ∨ symN i = 50 ∨ symN i = 115 := by
  obtain ⟨n, rfl⟩ := Int.eq_ofNat_of_zero_le h0
  have : n < 4 := by omega
  match n, this with
  | 0, _ => decide
  | 1, _ => decide
  | 2, _ => decide
  | 3, _ => decide
theorem symN_in3 {i : Int} (h0 : 0 ≤ i) (h1 : i < 3) : symN i ≠ 115 := by
  obtain ⟨n, rfl⟩ := Int.eq_ofNat_of_zero_le h0
  have : n < 3 := by omega
  match n, this with
  | 0, _ => decide
  | 1, _ => decide
  | 2, _ => decide
theorem slice_none (l : List Nat) (n : Nat) (h : n ≤ l.length) : Txt.slice (ofL l) none (some (n : Int)) = ofL (l.take n) := by
  have h0 := cut_ofL l 0 n
  unfold cut at h0
  have e : Txt.slice (ofL l) none (some (n : Int)) = Txt.slice (ofL l) (some ((0 : Nat) : Int)) (some (((0 : Nat) : Int) + n)) := by
    unfold Txt.slice PySem.Builtin.Str.strSliceIndices
    have : max 0 (min (0 : Int) ((ofL l).length : Int)) = 0 := by omega
    simp [this]
  rw [e, h0]; rfl
theorem body_ofL {b : Int} (hb : b = 3 ∨ b = 4) (d : Int) : bodyS b d = ofL (bodyL b d) := by
  have hbp : 0 < b := by omega
  have h1 := fmod_in (x := d.fdiv 3) hbp
  have h2 := fmod_in (x := (d.fdiv 3).fdiv b) hbp
  have h3 := fmod_in (x := (d.fdiv 3).fdiv (b ^ 2)) hbp
  have h4 := fmod_in (x := d) (m := 3) (by decide)
  unfold bodyS bodyL
  rw [sym_ofL h1.1 (by omega), sym_ofL h2.1 (by omega), sym_ofL h3.1 (by omega), ← ofL_app, ← ofL_app]
  obtain ⟨n, e⟩ := Int.eq_ofNat_of_zero_le (show 0 ≤ 1 + d.fmod 3 by omega)
  rw [e]
  exact slice_none _ n (by simp; omega)
theorem bodyK_ofL (ds : List Int) (k : Nat) : bodyK ds k = ofL (bodyN ds k) := body_ofL (baseOf_cases k) _
theorem body_ok {b : Int} (hb : b = 3 ∨ b = 4) (d : Int) : BodyOk (bodyL b d) := by
  have hbp : 0 < b := by omega
  have h1 := fmod_in (x := d.fdiv 3) hbp
  have h2 := fmod_in (x := (d.fdiv 3).fdiv b) hbp
  have h3 := fmod_in (x := (d.fdiv 3).fdiv (b ^ 2)) hbp
  refine ⟨fun c hc => ?_, Nat.le_trans (List.take_sublist _ _).length_le (by simp)⟩
  have := List.mem_of_mem_take hc
  simp only [List.mem_cons, List.not_mem_nil, or_false] at this
  rcases this with rfl | rfl | rfl
  · exact symN_in h1.1 (by omega)
  · exact symN_in h2.1 (by omega)
  · exact symN_in h3.1 (by omega)
theorem bods_ok (ds : List Int) : ∀ b ∈ bodsN ds, BodyOk b := fun b hb => by
  obtain ⟨k, _, rfl⟩ := List.mem_map.mp hb
  exact body_ok (baseOf_cases k) _
theorem bods_exit (ds : List Int) : exitsB (bodsN ds) ≠ [] := by
  intro h
  have h0 : bodyN ds 0 ∈ bodsN ds := List.mem_map.mpr ⟨0, List.mem_range.mpr (by decide), rfl⟩
  have := List.filter_eq_nil_iff.mp h _ h0
  apply this
  have hn : 115 ∉ bodyN ds 0 := fun hc => by
    have hc' := List.mem_of_mem_take (show 115 ∈ List.take _ _ from hc)
    have hb : baseOf 0 = 3 := rfl
    rw [hb] at hc'
    have h1 := fmod_in (x := (ds.getD 0 0).fdiv 3) (m := 3) (by decide)
    have h2 := fmod_in (x := ((ds.getD 0 0).fdiv 3).fdiv 3) (m := 3) (by decide)
    have h3 := fmod_in (x := ((ds.getD 0 0).fdiv 3).fdiv (3 ^ 2)) (m := 3) (by decide)
    simp only [List.mem_cons, List.not_mem_nil, or_false] at hc'
    rcases hc' with q | q | q
    · exact symN_in3 h1.1 h1.2 q.symm
    · exact symN_in3 h2.1 h2.2 q.symm
    · exact symN_in3 h3.1 h3.2 q.symm
  show (List.count 115 (bodyN ds 0) == 0) = true
  rw [List.count_eq_zero.mpr hn]; rfl
abbrev esOf (ds : List Int) : List (Int × Str) := (List.range 5).map fun k => (ds.getD k 0, bodyK ds k)
abbrev hdrsOf (t : Int) (ds : List Int) : List (Str × Str) := (Str.ofString "ss", (signAt (thirdOf t) ++ signAt (secondOf t)) ++ signAt (firstOf t)) :: (esOf ds).map (rowOf (spOf t))
theorem low_S : Txt.lower (Str.ofString "S") = ofL [115] := by decide +kernel
theorem low_s : Txt.lower (Str.ofString "s") = ofL [115] := by decide +kernel
theorem low_ss : Txt.lower (Str.ofString "ss") = ofL [115, 115] := by decide +kernel
theorem hdrs_asked (t : Int) (ds : List Int) : ((hdrsOf t ds).filter fun r => Txt.lower r.1 == Txt.lower (Str.ofString "S")).map (·.2) = (List.range 5).map fun k => upIf (bit (ds.getD k 0) 384) (valOf (spOf t) (bodyK ds k)) := by
  have h1 : (Txt.lower (Str.ofString "ss") == Txt.lower (Str.ofString "S")) = false := by
    rw [low_S, low_ss]
    exact beq_eq_false_iff_ne.mpr fun q => by rw [ofL_inj] at q; cases q
  have h2 : ∀ e : Int × Str, (Txt.lower (rowOf (spOf t) e).1 == Txt.lower (Str.ofString "S")) = true := fun e => by
    unfold rowOf
    cases bit e.1 192
    · show (Txt.lower (Str.ofString "s") == _) = true
      rw [low_S, low_s]; exact beq_self_eq_true _
    · exact beq_self_eq_true _
  unfold hdrsOf
  rw [List.filter_cons]
  show List.map _ (if (Txt.lower (Str.ofString "ss") == Txt.lower (Str.ofString "S")) = true then _ else _) = _
  rw [h1, if_neg (by decide), List.filter_eq_self.mpr (fun r hr => by obtain ⟨e, _, rfl⟩ := List.mem_map.mp hr; exact h2 e), List.map_map, List.map_map]
  rfl
theorem hdrs_low (t : Int) (ds : List Int) : ∀ r ∈ hdrsOf t ds, PySem.Builtin.Str.tooLong (Txt.lower r.1).length = false := fun r hr => by
  rcases List.mem_cons.mp hr with rfl | q
  · show PySem.Builtin.Str.tooLong (Txt.lower (Str.ofString "ss")).length = false
    rw [low_ss]; exact too_small (by rw [len_ofL]; decide)
  · obtain ⟨e, _, rfl⟩ := List.mem_map.mp q
    unfold rowOf
    cases bit e.1 192
    · show PySem.Builtin.Str.tooLong (Txt.lower (Str.ofString "s")).length = false
      rw [low_s]; exact too_small (by rw [len_ofL]; decide)
    · show PySem.Builtin.Str.tooLong (Txt.lower (Str.ofString "S")).length = false
      rw [low_S]; exact too_small (by rw [len_ofL]; decide)
theorem rows_pv (t : Int) (ds : List Int) :
    PV.list (((List.range 5).map fun k => upIf (bit (ds.getD k 0) 384) (valOf (spOf t) (bodyK ds k))).map fun v => .list (((piecesFrom exactD v v.length 0).map (partS exactD)).map .str)) = .list (((bodsN ds).map (rowB (sgOf t))).map synPV) := by
  rw [List.map_map, List.map_map, List.map_map]
  congr 1
  refine List.map_congr_left fun k _ => ?_
  have hb : BodyOk (bodyN ds k) := body_ok (baseOf_cases k) (ds.getD k 0)
  show PV.list (((piecesFrom exactD (upIf (bit (ds.getD k 0) 384) (valOf (spOf t) (bodyK ds k))) (upIf (bit (ds.getD k 0) 384) (valOf (spOf t) (bodyK ds k))).length 0).map (partS exactD)).map .str) = synPV (rowB (sgOf t) (bodyN ds k))
  rw [bodyK_ofL, val_ofL t hb, (tokd_of t hb (bit (ds.getD k 0) 384)).parts, List.map_map, List.map_map, synPV, List.map_map]
  congr 1
  refine List.map_congr_left fun c _ => ?_
  show PV.str (ofL (outL (symW t c))) = PV.str (symB (sgOf t) c).str
  rw [symW_out]
theorem rows_okR (t : Int) (ds : List Int) : RowsOk ((bodsN ds).map (rowB (sgOf t))) := by
  refine ⟨by simp, fun row hr => ?_⟩
  obtain ⟨b, hb, rfl⟩ := List.mem_map.mp hr
  refine ⟨by rw [List.length_map]; exact (bods_ok ds b hb).l, fun y hy => ?_⟩
  obtain ⟨c, _, rfl⟩ := List.mem_map.mp hy
  unfold symB
  split
  · rfl
  · exact sg_Sg t c
end Mine

/-! HeadT -/
namespace Mine
open PySem PySem.W PySem.Calls PyProof.Rows

def impRunT (tb : String → Option Builtin) (p : Program) (w : World) : Nat → SharedT → Thread → Option SharedT
  | 0, _, _ => none
  | n + 1, s, t => match t.atExitBegin with
    | some [] => some s
    | some (_ :: _) => none
    | none => match stepT (denote tb) p w s t with
      | some (s', t') => impRunT tb p w n s' t'
      | none => none
theorem impRun_of {tb : String → Option Builtin} {p : Program} {w : World} : ∀ {n : Nat} {s s' : SharedT} {t : Thread},
    impRunT tb p w n s t = some s' → importEnds tb p w n s.abs t = some s'.abs
  | 0, _, _, _, h => by cases h
  | n + 1, s, s', t, h => by
    unfold impRunT at h
    unfold importEnds
    cases he : t.atExitBegin with
    | some x =>
      rw [he] at h
      cases x with
      | nil => cases h; rfl
      | cons _ _ => cases h
    | none =>
      rw [he] at h
      cases hs : stepT (denote tb) p w s t with
      | none => rw [hs] at h; cases h
      | some r =>
        obtain ⟨s₂, t₂⟩ := r
        rw [hs] at h
        dsimp only
        rw [stepT_spec hs]
        exact impRun_of h

def topRunT (tb : String → Option Builtin) (p : Program) (w : World) (n₀ : Nat) (ann : Option Value) : Nat → SharedT → Thread → Option SharedT
  | 0, _, _ => none
  | n + 1, s, t => match through t with
    | true => some s
    | false => match stepOk n₀ ann t with
      | false => none
      | true => match stepT (denote tb) p w s t with
        | some (s', t') => topRunT tb p w n₀ ann n s' t'
        | none => none
theorem topRun_of {tb : String → Option Builtin} {p : Program} {w : World} {n₀ : Nat} {ann : Option Value} : ∀ {n : Nat} {s s' : SharedT} {t : Thread},
    topRunT tb p w n₀ ann n s t = some s' → topRun tb p w n₀ ann n s.abs t = some s'.abs
  | 0, _, _, _, h => by cases h
  | n + 1, s, s', t, h => by
    unfold topRunT at h
    unfold topRun
    cases he : through t with
    | true => rw [he] at h; cases h; rfl
    | false =>
      rw [he] at h
      cases hk : stepOk n₀ ann t with
      | false => rw [hk] at h; cases h
      | true =>
        rw [hk] at h
        cases hs : stepT (denote tb) p w s t with
        | none => rw [hs] at h; cases h
        | some r =>
          obtain ⟨s₂, t₂⟩ := r
          rw [hs] at h
          dsimp only
          rw [stepT_spec hs]
          exact topRun_of h

def treeOf : List Obj → Nat → BT → Option BT
  | [], _, t => some t
  | o :: l, n, t => match ((t.ins n o).get n).isSome with
    | true => treeOf l (n + 1) (t.ins n o)
    | false => none
theorem treeOf_spec {life : Life} : ∀ {l : List Obj} {n : Nat} {t t' : BT}, treeOf l n t = some t' →
    absHeap t' (n + l.length) life = ⟨(absHeap t n life).objs ++ l.toArray, life⟩
  | [], n, t, t', h => by cases h; simp [absHeap]
  | o :: l, n, t, t', h => by
    unfold treeOf at h
    cases hs : ((t.ins n o).get n).isSome with
    | false => rw [hs] at h; cases h
    | true =>
      rw [hs] at h
      have ih := treeOf_spec (life := life) h
      rw [absHeap_ins hs] at ih
      rw [List.length_cons, show n + (l.length + 1) = n + 1 + l.length by omega, ih]
      show Heap.mk _ _ = Heap.mk _ _
      congr 1
      show ((absHeap t n life).objs.push o) ++ l.toArray = _
      apply Array.toList_inj.mp
      simp

def openT (p : Program) (w : World) (N : Nat) : Option SharedT :=
  (impRunT treeTable (opening p) w N ⟨.nil, 0, {}, #[], {}, 1, (start (opening p)).1.os⟩ (start (opening p)).2).bind fun s =>
    (fenceModules? p s.abs).bind fun s₀ =>
      (treeOf s₀.heap.objs.toList 0 .nil).map fun t => ⟨t, s₀.heap.objs.toList.length, s₀.heap.life, s₀.gens, s₀.drawn, s₀.toks, s₀.os⟩

theorem openT_spec {p : Program} {w : World} {N : Nat} {s : SharedT} (h : openT p w N = some s) : fencedOpening treeTable p w N = some s.abs := by
  obtain ⟨s1, h1, h⟩ := Option.bind_eq_some_iff.mp h
  obtain ⟨s₀, h2, h⟩ := Option.bind_eq_some_iff.mp h
  obtain ⟨t, h3, rfl⟩ := Option.map_eq_some_iff.mp h
  unfold fencedOpening
  have e := impRun_of h1
  have e0 : (SharedT.abs ⟨.nil, 0, {}, #[], {}, 1, (start (opening p)).1.os⟩) = (start (opening p)).1 := rfl
  rw [e0] at e
  rw [e]
  show (fenceModules? p s1.abs) = _
  rw [h2]
  have q := treeOf_spec (life := s₀.heap.life) h3
  rw [Nat.zero_add] at q
  unfold SharedT.abs
  rw [q]
  obtain ⟨⟨objs, life⟩, gens, drawn, toks, os⟩ := s₀
  show some _ = some _
  congr 2
  show Heap.mk _ _ = Heap.mk _ _
  congr 1
  apply Array.toList_inj.mp
  simp [absHeap, BT.list]

def seenT {α : Type} (p q : Program) (loose : List Str) (Xt : Shared → Bool) (Yf : Shared → α) (g0 : Bool) (w : World) (N : Nat) (s : SharedT) :=
  match s.abs.heap.isNs mainGlobals && s.gens.size == 0 with
  | true => (topRunT treeTable p w s.n (s.abs.heap.nsMap mainGlobals "__annotations__") N s (topStub p)).map fun (s₁ : SharedT) =>
      (staticsOk (importedModules p.main.body) s.abs.heap s₁.abs.heap && namesBound p s₁.abs.heap && gensDone s₁.abs && laidKept s.abs.heap s₁.abs.heap,
        openSeen q loose (importedModules p.main.body) Xt g0 s₁.abs, Yf s₁.abs)
  | false => none

theorem left_of_T {α : Type} {p q : Program} {loose : List Str} {Xt : Shared → Bool} {Yf : Shared → α} {Ya : World → α} {N : Nat} {g0 : Bool} {w : World}
    (h : (openT p w N).bind (seenT p q loose Xt Yf g0 w N) = some (true, openGood q loose, Ya w)) :
    (openEnds treeTable p w N).map (fun s => (openSeen q loose (importedModules p.main.body) Xt g0 s, Yf s)) = some (openGood q loose, Ya w) := by
  obtain ⟨s, h1, h⟩ := Option.bind_eq_some_iff.mp h
  unfold seenT at h
  cases hc : s.abs.heap.isNs mainGlobals && s.gens.size == 0 with
  | false => rw [hc] at h; cases h
  | true =>
    rw [hc] at h
    obtain ⟨s₁, h2, h3⟩ := Option.map_eq_some_iff.mp h
    obtain ⟨e1, e2⟩ := Prod.mk.inj h3
    unfold openEnds
    rw [openT_spec h1]
    show (topFrom treeTable p w N s.abs).map _ = _
    unfold topFrom
    have hc' : (s.abs.heap.isNs mainGlobals && s.abs.gens.size == 0) = true := hc
    rw [hc']
    dsimp only
    have hn : s.abs.heap.objs.size = s.n := absHeap_size _ _ _
    rw [hn, topRun_of h2]
    dsimp only [Option.bind]
    rw [e1]
    exact congrArg some e2

theorem left_of_row {α : Type} {p q : Program} {loose : List Str} {Xt : Shared → Bool} {Yf : Shared → α} {Ya : World → α} {N : Nat} {g0 : Bool} (row : String)
    (h0 : ∀ w : World, (openT p (w.withFollow row false) N).bind (seenT p q loose Xt Yf g0 (w.withFollow row false) N) = some (true, openGood q loose, Ya (w.withFollow row false)))
    (h1 : ∀ w : World, (openT p (w.withFollow row true) N).bind (seenT p q loose Xt Yf g0 (w.withFollow row true) N) = some (true, openGood q loose, Ya (w.withFollow row true))) :
    LeftO p q loose Xt Yf Ya N g0 := fun w => by
  have e := World.withFollow_self w row
  cases hb : w.params.followText row <;> rw [hb] at e
  · have := left_of_T (h0 w); rw [e] at this; exact this
  · have := left_of_T (h1 w); rw [e] at this; exact this
end Mine

/-! HeadC -/
namespace Mine
open PySem PySem.W PySem.Calls PyProof.Rows
set_option Elab.async false
set_option maxRecDepth 100000
abbrev StepF := SharedT → Thread → Option (SharedT × Thread)
def impRunF (stp : StepF) (ae : Thread → Option (List Value)) : Nat → SharedT → Thread → Option SharedT
  | 0, _, _ => none
  | n + 1, s, t => match ae t with
    | some [] => some s
    | some (_ :: _) => none
    | none => match stp s t with
      | some (s', t') => impRunF stp ae n s' t'
      | none => none
def topRunF (stp : StepF) (sok : Thread → Bool) : Nat → SharedT → Thread → Option SharedT
  | 0, _, _ => none
  | n + 1, s, t => match through t with
    | true => some s
    | false => match sok t with
      | false => none
      | true => match stp s t with
        | some (s', t') => topRunF stp sok n s' t'
        | none => none
def openF (stp : StepF) (ae : Thread → Option (List Value)) (fen : Shared → Option Shared) (st : Shared × Thread) (N : Nat) : Option SharedT :=
  (impRunF stp ae N ⟨.nil, 0, {}, #[], {}, 1, st.1.os⟩ st.2).bind fun s =>
    (fen s.abs).bind fun s₀ =>
      (treeOf s₀.heap.objs.toList 0 .nil).map fun t => ⟨t, s₀.heap.objs.toList.length, s₀.heap.life, s₀.gens, s₀.drawn, s₀.toks, s₀.os⟩
noncomputable def fStep (p : Program) (w : World) : StepF := Fast.tw10156331382660048174 (Fast.tw11892475500146522536 Fast.tw14364793385576792824) p w
theorem fStep_eq (p : Program) (w : World) : stepT (denote treeTable) p w = fStep p w := by
  unfold fStep
  rw [← Fast.te10156331382660048174, ← Fast.te11892475500146522536, ← Fast.te14364793385576792824]
theorem impRun_F {p : Program} {w : World} : ∀ (n : Nat) (s : SharedT) (t : Thread), impRunT treeTable p w n s t = impRunF (fStep p w) Fast.tw3805553451399329143 n s t
  | 0, _, _ => rfl
  | n + 1, s, t => by
    unfold impRunT impRunF
    rw [fStep_eq, Fast.te3805553451399329143]
    cases Fast.tw3805553451399329143 t with
    | some l => cases l <;> rfl
    | none =>
      dsimp only
      cases fStep p w s t with
      | none => rfl
      | some r => exact impRun_F n _ _
theorem topRun_F {p : Program} {w : World} {n₀ : Nat} {ann : Option Value} : ∀ (n : Nat) (s : SharedT) (t : Thread), topRunT treeTable p w n₀ ann n s t = topRunF (fStep p w) (Fast.tw6613529449190102663 n₀ ann) n s t
  | 0, _, _ => rfl
  | n + 1, s, t => by
    unfold topRunT topRunF
    rw [fStep_eq, Fast.te6613529449190102663]
    cases through t with
    | true => rfl
    | false =>
      dsimp only
      cases Fast.tw6613529449190102663 n₀ ann t with
      | false => rfl
      | true =>
        dsimp only
        cases fStep p w s t with
        | none => rfl
        | some r => exact topRun_F n _ _
noncomputable def openG (p : Program) (w : World) (N : Nat) : Option SharedT := openF (fStep (opening p) w) Fast.tw3805553451399329143 (Fast.tw14289696077712309145 p) (Fast.tw1435165496053646825 (opening p)) N
theorem open_G (p : Program) (w : World) (N : Nat) : openT p w N = openG p w N := by
  unfold openT openG openF
  rw [Fast.te14289696077712309145, Fast.te1435165496053646825, impRun_F]
noncomputable def seenG {α : Type} (p q : Program) (loose : List Str) (Xt : Shared → Bool) (Yf : Shared → α) (g0 : Bool) (w : World) (N : Nat) (s : SharedT) :=
  match s.abs.heap.isNs mainGlobals && s.gens.size == 0 with
  | true => (topRunF (fStep p w) (Fast.tw6613529449190102663 s.n (Fast.tw8920871248978507458 s.abs.heap mainGlobals "__annotations__")) N s (topStub p)).map fun (s₁ : SharedT) =>
      (staticsOk (importedModules p.main.body) s.abs.heap s₁.abs.heap && namesBound p s₁.abs.heap && gensDone s₁.abs && laidKept s.abs.heap s₁.abs.heap,
        Fast.tw4187177175401517315 q loose (importedModules p.main.body) Xt g0 s₁.abs, Yf s₁.abs)
  | false => none
theorem seen_G {α : Type} (p q : Program) (loose : List Str) (Xt : Shared → Bool) (Yf : Shared → α) (g0 : Bool) (w : World) (N : Nat) (s : SharedT) : seenT p q loose Xt Yf g0 w N s = seenG p q loose Xt Yf g0 w N s := by
  unfold seenT seenG
  rw [Fast.te4187177175401517315, Fast.te8920871248978507458]
  cases s.abs.heap.isNs mainGlobals && s.gens.size == 0 with
  | true => dsimp only; rw [topRun_F]
  | false => rfl
theorem left_G {α : Type} {p q : Program} {loose : List Str} {Xt : Shared → Bool} {Yf : Shared → α} {Ya : World → α} {N : Nat} {g0 : Bool} (row : String)
    (h0 : ∀ w : World, (openG p (w.withFollow row false) N).bind (seenG p q loose Xt Yf g0 (w.withFollow row false) N) = some (true, openGood q loose, Ya (w.withFollow row false)))
    (h1 : ∀ w : World, (openG p (w.withFollow row true) N).bind (seenG p q loose Xt Yf g0 (w.withFollow row true) N) = some (true, openGood q loose, Ya (w.withFollow row true))) :
    LeftO p q loose Xt Yf Ya N g0 := by
  refine left_of_row row (fun w => ?_) (fun w => ?_)
  · rw [open_G, ← h0 w]; congr 1; funext s; exact seen_G ..
  · rw [open_G, ← h1 w]; congr 1; funext s; exact seen_G ..

/-- what is read off the heap behind the top -/
noncomputable def obsT (as : List Addr) (ns : List Str) (s : Shared) : List (Option Obj) × Bool × Bool × List (Option Value) :=
  (as.map s.heap.get?, s.heap.isNs cStatics, s.heap.isNs mainGlobals, Fast.tw8920871248978507458 s.heap cStatics sharingNotToldKey :: ns.map (Fast.tw8920871248978507458 s.heap mainGlobals))
def valT (K : Params → List (Addr × Obj)) (ns : List (Str × Option Value)) (w : World) : List (Option Obj) × Bool × Bool × List (Option Value) :=
  ((K w.params).map fun p => some p.2, true, true, none :: ns.map (·.2))
def saysT (K : Params → List (Addr × Obj)) (ns : List (Str × Option Value)) (w : World) (h : Heap) : Prop :=
  (∀ p ∈ K w.params, h.get? p.1 = some p.2) ∧ NoneBooked h ∧ ∃ mg, h.Ns mainGlobals mg ∧ ∀ e ∈ ns, mg e.1 = e.2
theorem map_eq_mem {α β : Type} {f g : α → β} : ∀ {l : List α}, l.map f = l.map g → ∀ a ∈ l, f a = g a
  | [], _, _, h => nomatch h
  | b :: l, e, a, h => by
    rw [List.map_cons, List.map_cons] at e
    obtain ⟨e1, e2⟩ := List.cons.inj e
    rcases List.mem_cons.mp h with rfl | q
    · exact e1
    · exact map_eq_mem e2 a q
theorem says_of {K : Params → List (Addr × Obj)} {ns : List (Str × Option Value)} {as : List Addr} (ha : ∀ P, as = (K P).map (·.1)) (w : World) (s : Shared) (e : obsT as (ns.map (·.1)) s = valT K ns w) : saysT K ns w s.heap := by
  unfold obsT valT at e
  rw [← Fast.te8920871248978507458] at e
  obtain ⟨e1, e2⟩ := Prod.mk.inj e
  obtain ⟨e2, e3⟩ := Prod.mk.inj e2
  obtain ⟨e3, e4⟩ := Prod.mk.inj e3
  obtain ⟨e4, e5⟩ := List.cons.inj e4
  refine ⟨?_, ⟨_, .of_isNs e2, e4⟩, _, .of_isNs e3, ?_⟩
  · rw [ha w.params, List.map_map] at e1
    exact map_eq_mem e1
  · rw [List.map_map] at e5
    exact map_eq_mem e5
theorem says_keeps {K : Params → List (Addr × Obj)} {ns : List (Str × Option Value)} (w : World) (h h' : Heap) (x : saysT K ns w h) (k : ∀ b o, h.get? b = some o → h'.get? b = some o) : saysT K ns w h' := by
  obtain ⟨a, ⟨mc, b, c⟩, mg, d, e⟩ := x
  exact ⟨fun p hp => k _ _ (a p hp), ⟨mc, b.keeps k, c⟩, mg, d.keeps k, e⟩
end Mine

/-! FinA -/
namespace Mine
open PySem PySem.W PySem.Calls PyProof.Rows
set_option Elab.async false
set_option maxRecDepth 100000
set_option maxHeartbeats 4000000

/-- a frame of one local argument: a token has been drawn behind it -/
theorem newEnv_one {M : Model} {A : Around} {E : Value → Shared → Prop} {s : Shared} {scope : Scope} {globals : Addr} {x : Str} {v : Value} {qual : Str} {func : Option Addr} {code : Value} {builtins : Addr} {Q : Env → Shared → Prop}
    (hk : scope.kind = .function) (hx : scope.names.lookup x = some .local)
    (hQ : ∀ env, env = newEnv scope s.heap.objs.size globals (cellsFrom (s.heap.objs.size + 1) scope.names []) qual func code none builtins →
      ∀ s', InCallC s env.locals (bindL env.kindOf [(x, v)] fun _ => none) env.cells (bindC env.kindOf [(x, v)] fun _ => none) s' → 0 < s'.toks → Q env s') :
    wpAny M A (newFunctionEnv scope globals [] [(x, v)] qual func code none builtins) Q E s := by
  simp only [newFunctionEnv, Option.isSome_none, Bool.false_eq_true, if_false]
  refine wpAny_bind (wpAny_alloc ?_)
  refine wpAny_bind (wpAny_layCells _ (fun name kind cells => by cases hkc : kind == NameKind.cell <;> simp [hkc]) _ _ _ _ ?_)
  have ok := cellsFrom_ok scope.names (s.heap.push { cls := .type "frame", data := .dict #[] }) (s.heap.objs.size + 1) [] ⟨fun _ _ hm => (nomatch hm), List.Pairwise.nil⟩ (by rw [Heap.size_push]; exact Nat.le_refl _)
  rw [Heap.size_push] at ok
  rw [show ({ s with heap := s.heap.push { cls := .type "frame", data := .dict #[] } } : Shared).heap.objs.size = s.heap.objs.size + 1 from Heap.size_push ..]
  have hns := (Heap.Ns.new s.heap (.type "frame")).keeps (pushCells_keeps scope.names (s.heap.push { cls := .type "frame", data := .dict #[] }))
  have hkp : Keep s.heap (pushCells (s.heap.push { cls := .type "frame", data := .dict #[] }) scope.names) := fun b o e => pushCells_keeps _ _ b o (Heap.get?_push_of_some _ e)
  refine wpAny_bind ?_
  rw [List.forIn_cons]
  refine wpAny_bind (wpAny_bind (wpAny_storeName_local (env := newEnv scope s.heap.objs.size globals (cellsFrom (s.heap.objs.size + 1) scope.names []) qual func code none builtins) hx hns (fun h' hn' hs' => ?_) (by show (scope.kind == .class || (scope.kind == .module && _)) = false; rw [hk]; rfl)))
  refine wpAny_pure ?_
  show wpAny M A (forIn [] _ _) _ E _
  rw [List.forIn_nil]
  refine wpAny_pure (wpAny_pure (hQ _ rfl _ ?_ (Nat.succ_pos _)))
  have hx' : (newEnv scope s.heap.objs.size globals (cellsFrom (s.heap.objs.size + 1) scope.names []) qual func code none builtins).kindOf x = some .local := hx
  unfold bindL bindC
  rw [if_pos hx', if_pos hx']
  refine ⟨⟨⟨h', _, rfl⟩, hn', fun b o e => ?_, Nat.le_refl _⟩, fun n c hc => ?_, ok.apart, fun n c hm => (ok.empty n c hm).2⟩
  · exact hs'.extBut b o (Nat.ne_of_lt (Heap.lt_size e)) (hkp b o e)
  · exact ((ok.empty n c (mem_of_lookup hc)).1).sameBut hs' (Nat.ne_of_gt (ok.empty n c (mem_of_lookup hc)).2)

/-- the same as FnOk, no token drawn yet -/
def FnOk0 (prog : Program) (w : World) (mg mb : Str → Option Value) (K : List (Addr × Obj)) (f : Addr) (p r : PV) (d : Nat) : Prop :=
  ∀ (A : Around) (v : Value) (s : Shared) (R : Result → Shared → Prop), A.handled = none → A.units + 4 * d + 20 < cLine → A.depth + d + 5 < recursionLimit → Grd w.params mg mb K s.heap →
    Rep w.params (vis s.heap []) p v → (∀ v h' t', Keep s.heap h' → Rep w.params (vis h' []) r v → R (.ok (.ret v)) { s with heap := h', toks := t' }) →
    codeAny (model prog w) A (.call (.ref f) ⟨[v], []⟩) R s
theorem FnOk0.of_body {prog : Program} {w : World} {mg mb : Str → Option Value} {K : List (Addr × Obj)} {f : Addr} {fd : FuncData} {body : List Stmt} {x : Str} {p r : PV} {d : Nat} (hd : IsDef K f fd) (hb : fd.body = .stmts body)
    (hbind : ∀ v, bindArgs fd ⟨[v], []⟩ = pure [(x, v)]) (hcn : ∃ ns : List Str, (∀ L, (cellsFrom L fd.scope.names []).map (·.1) = ns) ∧ ns.Nodup) (hx : fd.scope.names.lookup x = some .local)
    (h : ∀ A L, EX (calleeCx prog w mg mb K fd A L f d) [(x, p)] [] body (fun fl _ _ => fl = .ret r ∨ (fl = .next ∧ r = .none))) : FnOk0 prog w mg mb K f p r (d + 1) := by
  intro A v s R hh hu hdp G hr k
  obtain ⟨o, hK, ho, hclo, hgl, hbl, hkd, hgen, hco, c, oc, cvs, ct, hc1, hc2, hc3, hc4⟩ := hd
  refine codeAny_call_function (show A.depth < recursionLimit by omega) (G.k _ hK) ho hco hgen hb ⟨c, oc, cvs, ct, hc1, G.k _ hc2, hc3, hc4⟩ ?_
  rw [hbind v, hclo]
  refine wpAny_pure (newEnv_one hkd hx fun env he s₁ IC pt => ?_)
  subst he
  refine ⟨G.lim.keeps IC.toInCall.keep, codeAny_func (body := body) ?_⟩
  obtain ⟨h1, t1, rfl, kp⟩ := IC.done
  have ok : (calleeCx prog w mg mb K fd A s.heap.objs.size f d).Ok := ⟨hkd, hh, by show A.units + 3 + 4 * d + 20 < cLine; omega, by show A.depth + 1 + d + 5 < recursionLimit; omega, hgl, hbl⟩
  have e0 := get_size s.heap
  have hcfresh : ∀ p ∈ (callEnvC fd s.heap.objs.size f).cells, s.heap.get? p.2 = none ∧ s.heap.objs.size < p.2 := fun p hp => by
    have := IC.above p.1 p.2 hp
    refine ⟨?_, this⟩
    cases q : s.heap.get? p.2 with
    | none => rfl
    | some o => exact absurd (Heap.lt_size q) (Nat.not_lt.mpr (Nat.le_of_lt this))
  have hlk : LookLe (vis s.heap []) (vis h1 ((calleeCx prog w mg mb K fd A s.heap.objs.size f d).hid ⟨s.heap, []⟩ [])) := fun a ob e => by
    obtain ⟨q1, q2⟩ := vis_get e
    refine vis_of (kp _ _ q1) fun hm => ?_
    rcases List.mem_cons.mp (show a ∈ (callEnvC fd s.heap.objs.size f).locals :: _ from hm) with z | z
    · rw [show a = s.heap.objs.size from z, e0] at q1; cases q1
    · rcases List.mem_append.mp z with z | z
      · obtain ⟨p, hp, rfl⟩ := List.mem_map.mp z
        rw [(hcfresh p hp).1] at q1; cases q1
      · exact q2 z
  have hE : Est (calleeCx prog w mg mb K fd A s.heap.objs.size f d) ⟨s.heap, []⟩ [(x, p)] [] h1 := {
    g := G
    keep := kp
    liveX := fun a ha => by
      rcases List.mem_cons.mp ha with z | z
      · obtain ⟨o', es, ep, e, _⟩ := IC.toInCall.ns; exact ⟨o', z ▸ e⟩
      · rcases List.mem_append.mp z with z | z
        · obtain ⟨p, hp, rfl⟩ := List.mem_map.mp z
          obtain ⟨o', e, _⟩ := IC.cell _ _ (lookup_of_mem (by obtain ⟨ns, z1, z2⟩ := hcn; show ((cellsFrom (s.heap.objs.size + 1) fd.scope.names []).map (·.1)).Nodup; rw [z1]; exact z2) hp)
          exact ⟨o', e⟩
        · cases z
    newL := e0
    locC := fun p hp q => by have := (hcfresh p hp).2; rw [show p.2 = s.heap.objs.size from q] at this; omega
    cells := fun _ => ⟨fun p hp => (hcfresh p hp).1, IC.apart⟩
    vars := by
      refine ⟨_, _, IC.toInCall.ns, IC.cell, fun y pv e => ?_⟩
      rw [lookup_cons_of] at e
      by_cases q : y = x
      · subst q
        rw [if_pos rfl] at e
        cases e
        exact ⟨v, hr.get hlk, .inl ⟨hx, bindL_mem (binds := [(y, v)]) (by simp) List.mem_cons_self hx⟩⟩
      · rw [if_neg q] at e; cases e
    own := fun p hp => nomatch hp
    apart := List.nodup_nil }
  refine h A s.heap.objs.size ok ⟨s.heap, []⟩ { s with heap := h1, toks := t1 } _ _ hE pt fun fl fw V' M' h' t' e' rf hq => ?_
  rcases hq with rfl | ⟨rfl, rfl⟩
  · obtain ⟨v, rfl, rv⟩ := rf
    exact k v h' t' e'.keep (rv.get (vis_sub fun a ha => List.mem_cons_of_mem _ (List.mem_append_right _ ha)))
  · cases rf
    exact k .none h' t' e'.keep rfl

theorem ns_same {h : Heap} {a : Addr} {m m' : Str → Option Value} (x : h.Ns a m) (y : h.Ns a m') (n : Str) : m n = m' n := by
  obtain ⟨o, es, ep, h1, h2, _, h3⟩ := x
  obtain ⟨o', es', ep', g1, g2, _, g3⟩ := y
  rw [h1] at g1; cases g1
  rw [h2] at g2; cases g2
  rw [← h3, ← g3]
theorem ints_of {R : WRecords} : ∀ {xs : List WData}, WShape.hasItems R xs .int = true → ∃ ns : List Int, xs = ns.map WData.int
  | [], _ => ⟨[], rfl⟩
  | x :: xs, h => by
    obtain ⟨h1, h2⟩ := Bool.and_eq_true_iff.mp (show (WShape.has R x .int && WShape.hasItems R xs .int) = true from h)
    obtain ⟨i, rfl⟩ := hasW_int h1
    obtain ⟨ns, rfl⟩ := ints_of h2
    exact ⟨i :: ns, rfl⟩
theorem rep_ints {P : Params} {h : Heap} : ∀ {ns : List Int} {vs : List Value}, WellAll P h vs (ns.map WData.int) → RepL P (vis h []) (ns.map PV.int) vs
  | [], _, x => by cases x; rfl
  | n :: ns, _, x => by
    cases x with
    | cons a b =>
      cases a
      exact ⟨_, _, rfl, ⟨_, rfl⟩, rep_ints b⟩
theorem pre_len {l : OpenLaw} (hm : l.most = some 63) (hb : l.bound = none) {xs : List WData} (h : l.pre.holds [] { args := [.list xs] } = true) : xs.length ≤ 63 := by
  unfold OpenLaw.pre at h
  rw [hm, hb] at h
  by_cases q : xs.length ≤ 63
  · exact q
  · exfalso
    have e : less? (WData.int 63) (WData.int (xs.length : Int)) = some true := by
      show some (decide ((63 : Int) < (xs.length : Int))) = some true
      rw [decide_eq_true (by omega)]
    simp [WTm.holds, WTm.value, e] at h
theorem post_true (l : OpenLaw) (args : List WData) : l.row.claim.post args (.bool true) args = true := by
  simp [OpenLaw.row, RowW.claim, WShape.has, WShape.arms, WTm.holds, WTm.value, same]
/-- the law's call, from its contract -/
theorem call_of {l : OpenLaw} (hm : l.most = some 63) (hb : l.bound = none) {q : Program} {loose : List Str} {K : Params → List (Addr × Obj)} {names : List (Str × Option Value)} {d : DefRec} {kwd : List (Str × PySem.Expr)} {f : Addr} {n : Nat}
    (hn : (d.name, some (Value.ref f)) ∈ names) (hn1 : 4 + 4 * n + 20 < cLine) (hn2 : 1 + claimMargin + n + 5 < recursionLimit)
    (H : ∀ (w : World) (mg mb : Str → Option Value), (∀ e ∈ names, mg e.1 = e.2) → ∀ ns : List Int, ns.length ≤ 63 → FnOk0 l.prog w mg mb (K w.params) f (.list (ns.map .int)) (.bool true) n) :
    WalkO q loose (fun _ _ => True) (saysT K names) l.row.toRowW d kwd fun f vs => PySem.call f vs := by
  intro w s₀ s₁ mg mb G Y a o pm cd doc dV kV ho hd hcd hD hmg hg args vals as hpre hlay hrd hwl hlo
  obtain ⟨Y1, Y2, mg', Y3, Y4⟩ := Y
  have hY : ∀ e ∈ names, mg e.1 = e.2 := fun e he => (ns_same G.T.g Y3 e.1).trans (Y4 e he)
  have ha : a = f := by
    have := hY _ hn
    rw [show ((d.name, some (Value.ref f)) : Str × Option Value).1 = d.name from rfl, hmg] at this
    cases this; rfl
  subst ha
  obtain ⟨p1, p2⟩ := pre_splitW hpre
  obtain ⟨x, r, rfl, p3, p4⟩ := hasAllW_cons p1
  obtain rfl := hasAllW_nil p4
  obtain ⟨xs, rfl, p5⟩ := hasW_list p3
  have hlen := pre_len hm hb p2
  obtain ⟨ns, rfl⟩ := ints_of p5
  rw [List.length_map] at hlen
  cases hwl with
  | cons hw1 hw2 =>
    cases hw2
    cases hw1 with
    | list ho' hall =>
      refine wpAny_call (H w mg mb hY ns hlen callerA _ s₁ _ rfl hn1 hn2 ⟨G.T.g, G.T.b, G.T.nolimit, Y2, Y1, G.T.builtins⟩ ⟨_, _, _, rfl, vis_of ho' List.not_mem_nil, rep_ints hall⟩ fun v h' t' kp rv => ?_)
      cases (show v = .bool true from rv)
      exact GoodW.toG ⟨.inl ⟨_, _, [], rfl, fun _ => rfl, .bool true, post_true l _, fun _ => ⟨List.nodup_nil, fun a ha => absurd ha List.not_mem_nil⟩⟩, kp, rfl, hg⟩
end Mine

/-! F2s -/
namespace Mine
open PySem PySem.W PySem.Calls PyProof.Rows PySem.Challenge PySem.Builtin
set_option Elab.async false
set_option maxRecDepth 100000
set_option maxHeartbeats 4000000

/-- what the law's text finds about it -/
structure S02 (P : Params) (mg : Str → Option Value) (K : List (Addr × Obj)) where
  (fB fR fI fA fc fW fG fP fT fU fS fe fL fO fD an tn av tv Cl da ae : Addr)
  (mB cB mR cR mI cI mA cA mc cc mW cW mG cG mP cP mT cT mU cU mS cS me ce mL cL mO cO mD cD : Value)
  hB : IsDef K fB (fdOf "_law_bodies" (parts pw_re0170_02 64) .none mB cB)
  gB : mg "_law_bodies" = some (.ref fB)
  hR : IsDef K fR (fdOf "_law_rules" (parts pw_re0170_02 65) .none mR cR)
  gR : mg "_law_rules" = some (.ref fR)
  hI : IsDef K fI (fdOf "Headers.__init__" (methOf pw_re0170_02 7 0) (.ref da) mI cI)
  hda : ∃ n, (da, ({ cls := .type "tuple", data := .seq #[.none] n } : Obj)) ∈ K
  hA : IsDef K fA (fdOf "Headers.add_header" (methOf pw_re0170_02 7 16) .none mA cA)
  mmA : Meth K Cl "add_header" fA
  hc : IsDef K fc (fdOf "Headers._convert_string_type" (methOf pw_re0170_02 7 1) .none mc cc)
  mmc : Meth K Cl "_convert_string_type" fc
  hcls : HdrCls K Cl
  hset : HdrSet K Cl
  hmk : HdrMake K Cl fI
  gCl : mg "Headers" = some (.ref Cl)
  hdr : HdrG mg K an tn av tv
  hW : IsDef K fW (fdOf "_law_rows" (parts pw_re0170_02 67) .none mW cW)
  gW : mg "_law_rows" = some (.ref fW)
  hG : IsDef K fG (fdOf "Headers.get_all" (methOf pw_re0170_02 7 7) .none mG cG)
  mmG : Meth K Cl "get_all" fG
  hP : IsDef K fP (fdOf "_law_pieces" (parts pw_re0170_02 66) .none mP cP)
  gP : mg "_law_pieces" = some (.ref fP)
  hT : IsDef K fT (fdOf "ISTERMINAL" (parts pw_re0170_02 62) .none mT cT)
  gT : mg "ISTERMINAL" = some (.ref fT)
  ntT : Tok
  gNT : mg "NT_OFFSET" = some (.int 256 ntT)
  gae : mg "EXACT_TOKEN_TYPES" = some (.ref ae)
  gdict : GDict P K ae exactD
  hU : IsDef K fU (fdOf "_law_put" (parts pw_re0170_02 68) .none mU cU)
  gU : mg "_law_put" = some (.ref fU)
  hS : IsDef K fS (fdOf "_law_sentences" (parts pw_re0170_02 69) .none mS cS)
  gS : mg "_law_sentences" = some (.ref fS)
  he : IsDef K fe (fdOf "_ellipsis_match" (parts pw_re0170_02 10) .none me ce)
  ge : mg "_ellipsis_match" = some (.ref fe)
  emT : Tok
  gEM : mg "ELLIPSIS_MARKER" = some (.str "..." emT)
  hL : IsDef K fL (fdOf "_law_lies" (parts pw_re0170_02 70) .none mL cL)
  gL : mg "_law_lies" = some (.ref fL)
  hO : IsDef K fO (fdOf "_law_words" (parts pw_re0170_02 71) .none mO cO)
  gO : mg "_law_words" = some (.ref fO)
  hD : IsDef K fD (fdOf "_law_due" (parts pw_re0170_02 72) .none mD cD)
  gD : mg "_law_due" = some (.ref fD)
  brange : mg "range" = none
  bsum : mg "sum" = none
  blist : mg "list" = none
  bzip : mg "zip" = none
  blen : mg "len" = none
  bord : mg "ord" = none

abbrev lawB : List Stmt := (parts pw_re0170_02 73).2.2.1
abbrev lawCx (prog : Program) (w : World) (mg mb : Str → Option Value) (K : List (Addr × Obj)) (mod code : Value) (A : Around) (L f : Addr) : Cx := calleeCx prog w mg mb K (fdOf "law" (parts pw_re0170_02 73) .none mod code) A L f 5
def Subs (V' V : Vars) : Prop := ∀ y p, V'.lookup y = some p → V.lookup y = some p
theorem Subs.nil {V : Vars} : Subs [] V := fun _ _ e => nomatch e
theorem Subs.cons {V V' : Vars} {x : Str} {p : PV} (h : V.lookup x = some p) (k : Subs V' V) : Subs ((x, p) :: V') V := fun y q e => by
  rw [lookup_cons_of] at e
  by_cases z : y = x
  · subst z; rw [if_pos rfl] at e; cases e; exact h
  · rw [if_neg z] at e; exact k y q e
abbrev varsA (ds : List Int) (t : Int) : Vars := [(Str.ofString "spelled", .dict (spPV (spOf t))), (Str.ofString "draws", .list (ds.map .int))]
theorem law_a {prog : Program} {w : World} {mg mb : Str → Option Value} {K : List (Addr × Obj)} {f L : Addr} {A : Around} {mod code : Value} (S : S02 w.params mg K) {script : List Int} (hs : script.length ≤ 63) {Kc : Cont}
    (h : ∀ ds t, ds.length = 5 → EX (lawCx prog w mg mb K mod code A L f) (varsA ds t) [] (lawB.drop 9) Kc) :
    EX (lawCx prog w mg mb K mod code A L f) [(Str.ofString "script", .list (script.map .int))] [] lawB Kc := by
  have hcut : ((script.map PV.int).filter fun _ => true).map (fun p => match p with | .int x => PV.int (x.fmod 1000000) | p => p) = (cutOf script).map .int := by
    rw [List.filter_eq_self.mpr (fun _ _ => rfl), List.map_map, cutOf, List.map_map]; rfl
  refine EX.cons (EX1.assign (pv := .list ((cutOf script).map .int)) (.inr ⟨rfl, rfl, rfl⟩) (EV.of_eq (EV.comp (kp := fun _ => true) (f := (fun p => match p with | .int x => PV.int (x.fmod 1000000) | p => p)) (Vc := []) ?_ (It.list (EV.local rfl rfl)) ?_ ?_ (fun _ => rfl)) (congrArg PV.list hcut)) rfl ?_)
  · refine ⟨?_, ?_, rfl, ?_, rfl, ?_⟩
    · intro p hp hk
      simp only [List.mem_cons, List.not_mem_nil, or_false] at hp
      rcases hp with rfl | rfl <;> first | (cases hk; done) | rfl
    · intro y hy hk
      simp only [List.mem_cons, List.not_mem_nil, or_false] at hy
      rcases hy with rfl | rfl <;> cases hk
    · intro y hy hk
      simp only [List.mem_cons, List.not_mem_nil, or_false] at hy
      rcases hy with rfl | rfl <;> first | (cases hk; done) | rfl
    · intro y pv ee; cases ee
  · rw [List.length_map]; exact le_size (by omega)
  · intro Ca p hp
    obtain ⟨c, _, rfl⟩ := List.mem_map.mp hp
    refine ⟨CT.nil, fun _ => ?_⟩
    exact EV.bin (EV.local rfl rfl) (EV.bin EV.cint EV.cint (Bi.pow_int (by decide) (by decide) (by decide) (by decide) (by decide))) (Bi.mod_int (by decide))
  refine EX.cons (EX1.assign (pv := .list (told2.map .int)) (.inr ⟨rfl, rfl, rfl⟩) (SN.list rfl (EVs.cons EV.cint (EVs.cons EV.cint (EVs.cons EV.cint (EVs.cons EV.cint (EVs.cons EV.cint EVs.nil))))) (by decide)).sv rfl ?_)
  have hdr : ((upFrom 0 5).filter fun _ => true).map (fun p => match p with | .int x => PV.int (drawAt script x.toNat) | p => p) = (drawsOf script).map .int := rfl
  refine EX.cons ?_
  refine EX1.assignComp (items := upFrom 0 (Int.toNat 5)) (kp := fun _ => true) (f := (fun p => match p with | .int x => PV.int (drawAt script x.toNat) | p => p)) (Vc := [(Str.ofString "told", .list (told2.map .int)), (Str.ofString "cut", .list ((cutOf script).map .int))]) ?_ ?_ ?_ (It.range1 (EV.builtin rfl S.brange (by decide +kernel) (by decide)) EV.cint rfl (by omega) (by omega)) ?_ ?_ (fun _ => rfl) ?_
  · exact .inl rfl
  · rfl
  · refine ⟨?_, ?_, rfl, ?_, rfl, ?_⟩
    · intro p hp hk
      simp only [List.mem_cons, List.not_mem_nil, or_false] at hp
      rcases hp with rfl | rfl | rfl | rfl | rfl <;> first | (cases hk; done) | rfl
    · intro y hy hk
      simp only [List.mem_cons, List.not_mem_nil, or_false] at hy
      rcases hy with rfl | rfl | rfl | rfl | rfl <;> cases hk
    · intro y hy hk
      simp only [List.mem_cons, List.not_mem_nil, or_false] at hy
      rcases hy with rfl | rfl | rfl | rfl | rfl <;> first | (cases hk; done) | rfl
    · intro y pv ee
      rw [lookup_cons_of] at ee
      by_cases q : y = Str.ofString "told"
      · subst q
        rw [if_pos rfl] at ee
        cases ee
        exact ⟨rfl, rfl, rfl, rfl⟩
      · rw [if_neg q, lookup_cons_of] at ee
        by_cases q : y = Str.ofString "cut"
        · subst q
          rw [if_pos rfl] at ee
          cases ee
          exact ⟨rfl, rfl, rfl, rfl⟩
        · rw [if_neg q] at ee; cases ee
  · rw [upFrom_len]; decide
  · intro Ca p hp
    obtain ⟨i, hi⟩ := List.mem_iff_getElem?.mp hp
    have hil : i < 5 := by
      have := (List.getElem?_eq_some_iff.mp hi).1
      rw [upFrom_len] at this; exact this
    have e := upFrom_get hi
    have e' : p = .int (i : Int) := by rw [e]; congr 1; omega
    subst e'
    refine ⟨CT.nil, fun _ => ?_⟩
    refine EV.of_eq (EV.bin (EV.sub (EV.cell rfl rfl) (EV.local rfl rfl) (Ix.list (p := .int (told2.getD i 0)) (by omega) ?_ (by omega))) (EV.callB (EV.builtin rfl S.bsum (by decide +kernel) (by decide)) rfl (EVs.cons (EV.of_eq (EV.sliceL (EV.cell rfl rfl) (PartOf.one (EV.local rfl rfl)) PartOf.nil (PartOf.one EV.cint) (by decide) ?_) (congrArg PV.list (pickL_map _ _ _ _ _))) EVs.nil) Bn.sum) Bi.add_int) ?_
    · rw [List.getElem?_map]
      have : (i : Int).toNat = i := by omega
      rw [this]
      match i, hil with
      | 0, _ => rfl
      | 1, _ => rfl
      | 2, _ => rfl
      | 3, _ => rfl
      | 4, _ => rfl
    · rw [List.length_map, cutOf, List.length_map]; exact le_size (by omega)
    · rfl
  have hdl : (drawsOf script).length = 5 := by simp [drawsOf]
  refine XT.names (V' := [(Str.ofString "draws", .list ((drawsOf script).map .int))]) ?_ (Subs.cons rfl Subs.nil)
  generalize drawsOf script = ds at *
  clear hcut hdr
  refine EX.cons (EX1.assign (pv := .int ds.sum) (.inl rfl) (EV.callB (EV.builtin rfl S.bsum (by decide +kernel) (by decide)) rfl (EVs.cons (EV.local rfl rfl) EVs.nil) Bn.sum) rfl ?_)
  generalize ds.sum = t
  have f1 := first_in t
  have f2 := second_in t
  have f3 := third_in t
  refine EX.cons (EX1.assign (pv := .int (firstOf t)) (.inl rfl) (EV.bin (EV.local rfl rfl) EV.cint (Bi.mod_int (by decide))) rfl ?_)
  refine EX.cons (EX1.assign (pv := .int (secondOf t)) (.inl rfl) (EV.bin (EV.bin (EV.bin (EV.local rfl rfl) EV.cint Bi.add_int) (EV.bin (EV.bin (EV.local rfl rfl) EV.cint (Bi.divC (by decide) (by decide))) EV.cint (Bi.mod_int (by decide))) Bi.add_int) EV.cint (Bi.mod_int (by decide))) rfl ?_)
  refine EX.cons (EX1.assign (pv := .int (thirdOf t)) (.inl rfl) (EV.bin (EV.bin (EV.bin (EV.local rfl rfl) EV.cint Bi.add_int) (EV.bin (EV.bin (EV.local rfl rfl) EV.cint (Bi.divC (by decide) (by decide))) EV.cint (Bi.mod_int (by decide))) Bi.add_int) EV.cint (Bi.mod_int (by decide))) rfl ?_)
  refine EX.cons (EX1.assign (pv := .list (signsL.map .str)) (.inl rfl) (SN.list rfl (EVs.cons EV.cstr (EVs.cons EV.cstr (EVs.cons EV.cstr (EVs.cons EV.cstr (EVs.cons EV.cstr (EVs.cons EV.cstr (EVs.cons EV.cstr (EVs.cons EV.cstr EVs.nil)))))))) (by decide)).sv rfl ?_)
  refine EX.cons ?_
  refine EX1.assignDict ?_ ?_ ?_ ?_ ?_ ?_ ?_
  · exact .inr ⟨rfl, rfl, rfl⟩
  · rfl
  · rfl
  · simp
  · decide
  · rfl
  refine DT.cons (p := .str (signAt (firstOf t))) EV.cstr (EV.sub (EV.local rfl rfl) (EV.local rfl rfl) (Ix.list f1.1 (signs_get f1.1 f1.2) (by have := f1.2; omega))) ?_
  refine DT.cons (p := .str (signAt (secondOf t))) EV.cstr (EV.sub (EV.local rfl rfl) (EV.local rfl rfl) (Ix.list f2.1 (signs_get f2.1 f2.2) (by have := f2.2; omega))) ?_
  refine DT.cons (p := .str (signAt (thirdOf t))) EV.cstr (EV.sub (EV.local rfl rfl) (EV.local rfl rfl) (Ix.list f3.1 (signs_get f3.1 f3.2) (by have := f3.2; omega))) ?_
  refine DT.nil ⟨(by decide : [Str.ofString "0", Str.ofString "1", Str.ofString "2"].Nodup), ?_⟩
  refine XT.names (h ds t hdl) ?_
  exact Subs.cons rfl (Subs.cons rfl Subs.nil)
end Mine

/-! F2t -/
namespace Mine
open PySem PySem.W PySem.Calls PyProof.Rows PySem.Challenge PySem.Builtin
set_option Elab.async false
set_option maxRecDepth 100000
set_option maxHeartbeats 4000000

theorem words_in : ∀ u ∈ wordsTo 3, (∀ c ∈ u, c = 48 ∨ c = 49 ∨ c = 50) ∧ u.length ≤ 3 := by decide +kernel
theorem wok_out {rows : List (List Sy)} (h : RowsOk rows) (hex : exitsR rows ≠ []) : ∀ t ∈ outR rows, WOk 20000 t := by
  have hsw := sent_wok h
  have hfl5 : (forksR rows).length ≤ 5 := Nat.le_trans (List.length_filter_le _ _) h.l
  have hsl5 : (sentsR rows).length ≤ 5 := by rw [List.length_map, List.length_map]; exact Nat.le_trans (List.length_filter_le _ _) h.l
  intro t ht
  unfold outR at ht
  cases hq : forksR rows with
  | nil => rw [hq] at ht; exact (hsw t ht).mono (by decide)
  | cons f0 fs =>
    have hne : (forksR rows).isEmpty = false := by rw [hq]; rfl
    rw [hne, if_neg (by decide)] at ht
    rw [List.mem_singleton.mp ht]
    have hf0 : f0R rows = f0 := by unfold f0R; rw [hq]; rfl
    have hf0r : f0R rows ∈ rows := by rw [hf0]; exact (List.mem_filter.mp (show f0 ∈ forksR rows by rw [hq]; exact List.mem_cons_self)).1
    obtain ⟨e0, es, hes⟩ : ∃ e0 es, exitsR rows = e0 :: es := by
      cases hx : exitsR rows with
      | nil => exact absurd hx hex
      | cons x xs => exact ⟨x, xs, rfl⟩
    have he0 : WOk 3 (e0R rows) := by
      have : e0R rows = e0 := by unfold e0R; rw [hes]; rfl
      rw [this]; exact exit_wok h e0 (by rw [hes]; exact List.mem_cons_self)
    obtain ⟨s0, ss, hss⟩ : ∃ s0 ss, sentsR rows = s0 :: ss := by unfold sentsR; rw [hes]; exact ⟨_, _, rfl⟩
    have hssl : ss.length ≤ 5 := by have h1 := congrArg List.length hss; rw [List.length_cons] at h1; omega
    have hA : WOk (48 + 147 * ss.length) (wholeA rows) := by
      unfold wholeA
      rw [hss]
      exact foldA_wok h hf0r ss (fun t ht => hsw t (by rw [hss]; exact List.mem_cons_of_mem _ ht)) (hsw s0 (by rw [hss]; exact List.mem_cons_self))
    have hB := foldB_wok h he0 (forksR rows) (fun x hx => (List.mem_filter.mp hx).1) hA
    have hX := put3 h hf0r hB hB
    have hY := put3 h hf0r hB hX
    exact hY.mono (by omega)
theorem law_ok {prog : Program} {w : World} {mg mb : Str → Option Value} {K : List (Addr × Obj)} {f : Addr} {mod code : Value} (hd : IsDef K f (fdOf "law" (parts pw_re0170_02 73) .none mod code)) (S : S02 w.params mg K) {script : List Int} (hs : script.length ≤ 63) :
    FnOk0 prog w mg mb K f (.list (script.map .int)) (.bool true) 6 := by
  refine FnOk0.of_body (x := "script") hd rfl (fun v => rfl) ⟨["sentences", "spelled", "told", "cut"], fun _ => rfl, by decide⟩ rfl ?_
  intro A L
  refine law_a S hs fun ds t hdl => ?_
  obtain ⟨d0, d1, d2, d3, d4, rfl⟩ : ∃ d0 d1 d2 d3 d4, ds = [d0, d1, d2, d3, d4] := by
    match ds, hdl with
    | [a, b, c, d, e], _ => exact ⟨a, b, c, d, e, rfl⟩
  generalize hds : [d0, d1, d2, d3, d4] = ds at *
  have f1 := first_in t
  have f2 := second_in t
  have f3 := third_in t
  -- bodies
  have eb : ((List.range 5).map (bodyK ds)).map PV.str = wPV (bodsN ds) := by
    rw [wPV, List.map_map, List.map_map]
    refine List.map_congr_left fun k _ => ?_
    show PV.str (bodyK ds k) = PV.str (ofL (bodyN ds k))
    rw [bodyK_ofL]
  refine EX.cons (EX1.assign (pv := .list (wPV (bodsN ds))) (.inl rfl) (EV.of_eq (EV.callF (EV.gref S.gB rfl) rfl (EVs.cons (EV.local rfl rfl) EVs.nil) S.hB (bodies_ok S.hB S.brange hdl) (by decide : 1 ≤ 5)) (congrArg PV.list eb)) rfl ?_)
  -- sentences
  have ed : PV.list (ds.map .int) = .list ((esOf ds).map fun e => PV.int e.1) := by rw [← hds]; rfl
  have eb2 : PV.list (wPV (bodsN ds)) = .list ((esOf ds).map fun e => PV.str e.2) := by
    rw [← eb, List.map_map, List.map_map]; rfl
  have hes : ∀ e ∈ esOf ds, RowOk (spOf t) e := fun e he => by
    obtain ⟨k, _, rfl⟩ := List.mem_map.mp he
    have := row_ok t (ds.getD k 0) (body_ok (baseOf_cases k) (ds.getD k 0))
    rw [bodyK_ofL]; exact this
  have hR := rules_fn_ok (prog := prog) (w := w) (mb := mb) S.hR S.hdr S.hI S.hda S.blist S.bzip S.hA S.mmA S.hc S.mmc S.hcls S.hset S.hmk S.gCl (s0 := signAt (firstOf t)) (s1 := signAt (secondOf t)) (s2 := signAt (thirdOf t)) (sp := spOf t) rfl (plain_signs t)
    ⟨sign_len _ f1.1 f1.2, sign_len _ f2.1 f2.2, sign_len _ f3.1 f3.2⟩ hes (by simp)
  have hv : ∀ v ∈ ((List.range 5).map fun k => upIf (bit (ds.getD k 0) 384) (valOf (spOf t) (bodyK ds k))), ∃ k, v = upIf (bit (ds.getD k 0) 384) (ofL ((bodyN ds k).map (symW t)).flatten) := fun v hv => by
    obtain ⟨k, _, rfl⟩ := List.mem_map.mp hv
    exact ⟨k, by rw [bodyK_ofL, val_ofL t (show BodyOk (bodyN ds k) from body_ok (baseOf_cases k) _)]⟩
  have hW := rowsfn_ok (prog := prog) (w := w) (mb := mb) S.hW S.hdr S.hG S.mmG S.hc S.mmc S.hcls S.hP S.gP S.hT S.gT S.gNT S.gae S.gdict exact_vals S.blen S.bord (rows := hdrsOf t ds) (n := Str.ofString "S") rfl
    (by rw [low_S]; exact too_small (by rw [len_ofL]; decide)) (by rw [low_S]; exact ⟨by decide, by decide⟩) (hdrs_low t ds) (by simp) (hdrs_asked t ds)
    (fun v hv' => by obtain ⟨k, rfl⟩ := hv v hv'; have := (tokd_of t (show BodyOk (bodyN ds k) from body_ok (baseOf_cases k) _) (bit (ds.getD k 0) 384)).len; omega)
    (fun v hv' => by obtain ⟨k, rfl⟩ := hv v hv'; exact (tokd_of t (show BodyOk (bodyN ds k) from body_ok (baseOf_cases k) _) (bit (ds.getD k 0) 384)).ok)
  rw [rows_pv t ds] at hW
  have hro := rows_okR t ds
  have hexR : exitsR ((bodsN ds).map (rowB (sgOf t))) ≠ [] := by
    rw [exits_map]
    exact fun q => bods_exit ds (List.map_eq_nil_iff.mp q)
  have hS := sent_ok (prog := prog) (w := w) (mb := mb) S.hS S.hU S.gU S.brange hro hexR
  have hwo := wok_out hro hexR
  have hH := haines (sg := sgOf t) (sg_inj t) (B := bodsN ds) (words := wordsTo 3) (bods_ok ds) (bods_exit ds) words_in
  generalize hrows : (bodsN ds).map (rowB (sgOf t)) = rows at *
  refine EX.cons (EX1.assign (pv := .list (textsPV (outR rows))) (.inr ⟨rfl, rfl, rfl⟩) (EV.callF (EV.gref S.gS rfl) rfl (EVs.cons (EV.callF (EV.gref S.gW rfl) rfl (EVs.cons (EV.callF (EV.gref S.gR rfl) rfl (EVs.cons (EV.of_eq (EV.local rfl rfl) ed) (EVs.cons (EV.of_eq (EV.local rfl rfl) eb2) (EVs.cons (EV.cell rfl rfl) EVs.nil))) S.hR hR (by decide : 3 ≤ 5)) EVs.nil) S.hW hW (by decide : 3 ≤ 5)) EVs.nil) S.hS hS (by decide : 2 ≤ 5)) rfl ?_)
  -- words
  refine EX.cons (EX1.assign (pv := .list (wPV (wordsTo 3))) (.inl rfl) (EV.callF (EV.gref S.gO rfl) rfl EVs.nil S.hO (words_ok S.hO S.brange) (by decide : 1 ≤ 5)) rfl ?_)
  -- the comparison
  have hT : ∀ ss ∈ outR rows, (∀ s ∈ ss, Sg s) ∧ (encL ss).length ≤ 100000 := fun ss hss => by
    have h1 := hwo ss hss
    exact ⟨fun s hs => (h1.s s hs).1, Nat.le_trans h1.enc (by omega)⟩
  have hlhs : (((wPV (wordsTo 3)).filter fun p => (fun u => (outR rows).any fun ts => (u.map (sgOf t)).isSublist ts) (cpsP p)).map fun p => p) = ((dueW (bodsN ds) (wordsTo 3)).map ofL).map .str := by
    have hf := filter_wPV (fun u => (outR rows).any fun ts => (u.map (sgOf t)).isSublist ts) (wordsTo 3)
    rw [hH] at hf
    rw [List.map_id']
    exact hf.trans (wPV_map _)
  have hrhs : PV.list (wPV (dueW (bodsN ds) (wordsTo 3))) = .list (((dueW (bodsN ds) (wordsTo 3)).map ofL).map .str) := by rw [← wPV_map]
  refine EX.cons (EX1.ret (EV.of_eq (EV.cmp (EV.of_eq (EV.comp (items := wPV (wordsTo 3)) (kp := fun p => (fun u => (outR rows).any fun ts => (u.map (sgOf t)).isSublist ts) (cpsP p)) (f := fun p => p) (Vc := [(Str.ofString "sentences", .list (textsPV (outR rows))), (Str.ofString "spelled", .dict (spPV' (spOf t)))]) ?_ (It.list (EV.local rfl rfl)) ?_ ?_ (fun _ => rfl)) (congrArg PV.list hlhs))
    (EV.of_eq (EV.callF (EV.gref S.gD rfl) rfl (EVs.cons (EV.local rfl rfl) (EVs.cons (EV.local rfl rfl) EVs.nil)) S.hD (due_ok S.hD S.blen (bods_ok ds) (by simp) words_in (by have := (layer_len 3 (by decide)).2; omega)) (by decide : 1 ≤ 5)) hrhs) Bi.eq_strs rfl) (congrArg PV.bool (decide_eq_true rfl))) (.inl rfl))
  · refine ⟨?_, ?_, rfl, ?_, rfl, ?_⟩
    · intro p hp hk
      simp only [List.mem_cons, List.not_mem_nil, or_false] at hp
      rcases hp with rfl | rfl | rfl | rfl | rfl <;> first | (cases hk; done) | rfl
    · intro y hy hk
      simp only [List.mem_cons, List.not_mem_nil, or_false] at hy
      rcases hy with rfl | rfl | rfl | rfl | rfl <;> cases hk
    · intro y hy hk
      simp only [List.mem_cons, List.not_mem_nil, or_false] at hy
      rcases hy with rfl | rfl | rfl | rfl | rfl <;> first | (cases hk; done) | rfl
    · intro y pv ee
      rw [lookup_cons_of] at ee
      by_cases q : y = Str.ofString "sentences"
      · subst q
        rw [if_pos rfl] at ee
        cases ee
        exact ⟨rfl, rfl, rfl, rfl⟩
      · rw [if_neg q, lookup_cons_of] at ee
        by_cases q : y = Str.ofString "spelled"
        · subst q
          rw [if_pos rfl] at ee
          cases ee
          exact ⟨rfl, rfl, rfl, rfl⟩
        · rw [if_neg q] at ee; cases ee
  · rw [List.length_map]; exact le_size (by have := (layer_len 3 (by decide)).2; omega)
  · intro Ca p hp
    obtain ⟨u, hu, rfl⟩ := List.mem_map.mp hp
    obtain ⟨hu1, hu2⟩ := words_in u hu
    refine ⟨CT.one ?_, fun _ => EV.local rfl rfl⟩
    exact ET.val (EV.callF (EV.gref S.gL rfl) rfl (EVs.cons (EV.cell rfl rfl) (EVs.cons (EV.local rfl rfl) (EVs.cons (EV.cell rfl rfl) EVs.nil))) S.hL (lies_ok S.hL S.he S.ge S.gEM S.blen (spl_of t) hT hu1 hu2) (by decide : 2 ≤ 5)) Tr.bool rfl
end Mine

/-! HeadK2 -/
namespace Mine
open PySem PySem.W PySem.Calls PyProof.Rows PySem.Challenge
set_option Elab.async false
set_option maxRecDepth 100000
set_option maxHeartbeats 0
def entsP (P : Params) (l : List (Str × Tok × Value)) : List DictEntry := l.map fun e => ⟨PyData.keyHash P e.1, .str e.1 e.2.1, e.2.2⟩
def exactE (P : Params) (l : List (Tok × Tok)) : List DictEntry := (exactL.zip l).map fun e => ⟨PyData.keyHash P (ofL e.1.1), .str (ofL e.1.1) e.2.1, .int e.1.2 e.2.2⟩
def K02 (P : Params) : List (Addr × Obj) := [
  (194, { cls := .type "dict", data := .dict (exactE P [(668, 664), (670, 612), (672, 604), (674, 636), (676, 594), (678, 638), (680, 570), (682, 572), (684, 588), (686, 626), (688, 648), (690, 632), (692, 584), (694, 628), (696, 580), (698, 586), (700, 630), (702, 658), (704, 602), (706, 660), (708, 590), (710, 650), (712, 652), (714, 634), (716, 578), (718, 662), (720, 582), (722, 596), (724, 622), (726, 644), (728, 614), (730, 600), (732, 610), (734, 598), (736, 616), (737, 624), (738, 646), (739, 654), (740, 656), (741, 574), (742, 576), (743, 620), (744, 642), (745, 606), (746, 592), (747, 640), (748, 608), (749, 618)]).toArray 48 }),
  (47, { cls := .type "tuple", data := .seq #[.int 14 0, .int 10 0, .int 4 0, .int 1 0, .int 1 0, .int 22 0, .int 0 0, .int 31 0, .int 16 0, .int 127 0, .int 0 0, .int 13 0, .int 7 0, .int 22 0, .int 0 0, .int 31 0, .int 16 0, .int 127 0, .int 0 0, .int 1 0] 0 }),
  (48, { cls := .type "re.Pattern", data := .fields #[.str "[\\x00-\\x1F\\x7F]" 326, .int 32 349, .int 0 0, .none, .none, .ref 47, .int 0 0] }),
  (52, { cls := .type "tuple", data := .seq #[.int 14 0, .int 14 0, .int 4 0, .int 1 0, .int 1 0, .int 9 0, .int 4294966783 0, .int 0 0, .int 0 0, .int 2147483648 0, .int 0 0, .int 0 0, .int 0 0, .int 0 0, .int 0 0, .int 13 0, .int 11 0, .int 9 0, .int 4294966783 0, .int 0 0, .int 0 0, .int 2147483648 0, .int 0 0, .int 0 0, .int 0 0, .int 0 0, .int 0 0, .int 1 0] 0 }),
  (53, { cls := .type "re.Pattern", data := .fields #[.str "[\\x00-\\x08\\x0A-\\x1F\\x7F]" 352, .int 32 383, .int 0 0, .none, .none, .ref 52, .int 0 0] }),
  (202, { cls := .type "code", data := .fields #[.str "ISTERMINAL" 765, .str "ISTERMINAL" 766, .str "/claim/cut.py" 767, .int 181 0, .int 1 0, .int 0 0, .int 0 0, .int 3 0, .ref 197, .bool true, .int 276 0, .ref 198, .none, .ref 199, .ref 200, .ref 201, .int 769 0, .int 181 0, .str "/claim/cut.py" 770] }),
  (203, { cls := .type "function", data := .func (fdOf "ISTERMINAL" (parts pw_re0170_02 62) (.none) (.str "cpy313.token" 568) (.ref 202)) }),
  (192, { cls := .type "code", data := .fields #[.str "_ellipsis_match" 556, .str "_ellipsis_match" 557, .str "/claim/cut.py" 558, .int 102 0, .int 2 0, .int 0 0, .int 0 0, .int 3 0, .ref 187, .bool true, .int 276 0, .ref 188, .none, .ref 189, .ref 190, .ref 191, .int 565 0, .int 102 0, .str "/claim/cut.py" 566] }),
  (193, { cls := .type "function", data := .func (fdOf "_ellipsis_match" (parts pw_re0170_02 10) (.none) (.str "cpy313.doctest" 552) (.ref 192)) }),
  (178, { cls := .type "code", data := .fields #[.str "add_header" 530, .str "Headers.add_header" 531, .str "/claim/cut.py" 532, .int 87 0, .int 3 0, .int 0 0, .int 0 0, .int 11 0, .ref 173, .bool true, .int 276 0, .ref 174, .none, .ref 175, .ref 176, .ref 177, .int 540 0, .int 87 0, .str "/claim/cut.py" 541] }),
  (179, { cls := .type "function", data := .func (fdOf "Headers.add_header" (methOf pw_re0170_02 7 16) (.none) (.str "cpy313.wsgiref.headers" 289) (.ref 178)) }),
  (120, { cls := .type "code", data := .fields #[.str "get_all" 465, .str "Headers.get_all" 466, .str "/claim/cut.py" 467, .int 55 0, .int 2 0, .int 0 0, .int 0 0, .int 3 0, .ref 117, .bool true, .int 276 0, .ref 118, .none, .none, .none, .ref 119, .int 468 0, .int 55 0, .str "/claim/cut.py" 469] }),
  (121, { cls := .type "function", data := .func (fdOf "Headers.get_all" (methOf pw_re0170_02 7 7) (.none) (.str "cpy313.wsgiref.headers" 289) (.ref 120)) }),
  (82, { cls := .type "code", data := .fields #[.str "_convert_string_type" 417, .str "Headers._convert_string_type" 418, .str "/claim/cut.py" 419, .int 30 0, .int 2 0, .int 0 0, .int 1 0, .int 3 0, .ref 77, .bool true, .int 276 0, .ref 78, .none, .ref 79, .ref 80, .ref 81, .int 424 0, .int 30 0, .str "/claim/cut.py" 425] }),
  (83, { cls := .type "function", data := .func (fdOf "Headers._convert_string_type" (methOf pw_re0170_02 7 1) (.none) (.str "cpy313.wsgiref.headers" 289) (.ref 82)) }),
  (69, { cls := .type "tuple", data := .seq #[.none] 0 }),
  (75, { cls := .type "code", data := .fields #[.str "__init__" 407, .str "Headers.__init__" 408, .str "/claim/cut.py" 409, .int 20 0, .int 2 0, .int 0 0, .int 0 0, .int 3 0, .ref 70, .bool true, .int 276 0, .ref 71, .none, .ref 72, .ref 73, .ref 74, .int 414 0, .int 20 0, .str "/claim/cut.py" 415] }),
  (76, { cls := .type "function", data := .func (fdOf "Headers.__init__" (methOf pw_re0170_02 7 0) (.ref 69) (.str "cpy313.wsgiref.headers" 289) (.ref 75)) }),
  (181, { cls := .type "dict", data := .dict (entsP P [("__module__", 402, .str "cpy313.wsgiref.headers" 289), ("__firstlineno__", 406, .int 18 405), ("__init__", 416, .ref 76), ("_convert_string_type", 426, .ref 83), ("__len__", 433, .ref 90), ("__setitem__", 442, .ref 97), ("__delitem__", 448, .ref 102), ("__getitem__", 456, .ref 109), ("__contains__", 464, .ref 116), ("get_all", 470, .ref 121), ("get", 481, .ref 129), ("keys", 487, .ref 134), ("values", 493, .ref 139), ("items", 500, .ref 146), ("__repr__", 507, .ref 153), ("__str__", 513, .ref 158), ("__bytes__", 520, .ref 165), ("setdefault", 529, .ref 172), ("add_header", 542, .ref 179), ("__static_attributes__", 544, .ref 180), ("__dict__", 546, .ref 183), ("__weakref__", 548, .ref 184), ("__doc__", 549, .none)]).toArray 4 }),
  (182, { cls := .type "type", data := .cls { name := "Headers", bases := [.type "object"], mro := [.ref 182, .type "object"], ns := 181, qualname := "Headers", hasDict := true }, slots := #[none, none, some (.str "Headers" 395), some (.str "Headers" 403), some (.builtin "object.__new__"), some (.bool true)] }),
  (209, { cls := .type "code", data := .fields #[.str "_law_bodies" 774, .str "_law_bodies" 775, .str "/claim/cut.py" 776, .int 184 0, .int 1 0, .int 0 0, .int 0 0, .int 3 0, .ref 204, .bool true, .int 276 0, .ref 205, .none, .ref 206, .ref 207, .ref 208, .int 783 0, .int 184 0, .str "/claim/cut.py" 784] }),
  (210, { cls := .type "function", data := .func (fdOf "_law_bodies" (parts pw_re0170_02 64) (.none) (.str "law_re0170_02" 772) (.ref 209)) }),
  (214, { cls := .type "code", data := .fields #[.str "_law_rules" 786, .str "_law_rules" 787, .str "/claim/cut.py" 788, .int 192 0, .int 3 0, .int 0 0, .int 0 0, .int 3 0, .ref 211, .bool true, .int 276 0, .ref 212, .none, .none, .none, .ref 213, .int 789 0, .int 192 0, .str "/claim/cut.py" 790] }),
  (215, { cls := .type "function", data := .func (fdOf "_law_rules" (parts pw_re0170_02 65) (.none) (.str "law_re0170_02" 772) (.ref 214)) }),
  (221, { cls := .type "code", data := .fields #[.str "_law_pieces" 792, .str "_law_pieces" 793, .str "/claim/cut.py" 794, .int 201 0, .int 1 0, .int 0 0, .int 0 0, .int 3 0, .ref 216, .bool true, .int 276 0, .ref 217, .none, .ref 218, .ref 219, .ref 220, .int 799 0, .int 201 0, .str "/claim/cut.py" 800] }),
  (222, { cls := .type "function", data := .func (fdOf "_law_pieces" (parts pw_re0170_02 66) (.none) (.str "law_re0170_02" 772) (.ref 221)) }),
  (228, { cls := .type "code", data := .fields #[.str "_law_rows" 802, .str "_law_rows" 803, .str "/claim/cut.py" 804, .int 211 0, .int 1 0, .int 0 0, .int 0 0, .int 3 0, .ref 223, .bool true, .int 276 0, .ref 224, .none, .ref 225, .ref 226, .ref 227, .int 810 0, .int 211 0, .str "/claim/cut.py" 811] }),
  (229, { cls := .type "function", data := .func (fdOf "_law_rows" (parts pw_re0170_02 67) (.none) (.str "law_re0170_02" 772) (.ref 228)) }),
  (235, { cls := .type "code", data := .fields #[.str "_law_put" 813, .str "_law_put" 814, .str "/claim/cut.py" 815, .int 222 0, .int 3 0, .int 0 0, .int 0 0, .int 3 0, .ref 230, .bool true, .int 276 0, .ref 231, .none, .ref 232, .ref 233, .ref 234, .int 821 0, .int 222 0, .str "/claim/cut.py" 822] }),
  (236, { cls := .type "function", data := .func (fdOf "_law_put" (parts pw_re0170_02 68) (.none) (.str "law_re0170_02" 772) (.ref 235)) }),
  (240, { cls := .type "code", data := .fields #[.str "_law_sentences" 824, .str "_law_sentences" 825, .str "/claim/cut.py" 826, .int 231 0, .int 1 0, .int 0 0, .int 0 0, .int 3 0, .ref 237, .bool true, .int 276 0, .ref 238, .none, .none, .none, .ref 239, .int 827 0, .int 231 0, .str "/claim/cut.py" 828] }),
  (241, { cls := .type "function", data := .func (fdOf "_law_sentences" (parts pw_re0170_02 69) (.none) (.str "law_re0170_02" 772) (.ref 240)) }),
  (245, { cls := .type "code", data := .fields #[.str "_law_lies" 830, .str "_law_lies" 831, .str "/claim/cut.py" 832, .int 249 0, .int 3 0, .int 0 0, .int 0 0, .int 3 0, .ref 242, .bool true, .int 276 0, .ref 243, .none, .none, .none, .ref 244, .int 833 0, .int 249 0, .str "/claim/cut.py" 834] }),
  (246, { cls := .type "function", data := .func (fdOf "_law_lies" (parts pw_re0170_02 70) (.none) (.str "law_re0170_02" 772) (.ref 245)) }),
  (250, { cls := .type "code", data := .fields #[.str "_law_words" 836, .str "_law_words" 837, .str "/claim/cut.py" 838, .int 255 0, .int 0 0, .int 0 0, .int 0 0, .int 3 0, .ref 247, .bool true, .int 276 0, .ref 248, .none, .none, .none, .ref 249, .int 839 0, .int 255 0, .str "/claim/cut.py" 840] }),
  (251, { cls := .type "function", data := .func (fdOf "_law_words" (parts pw_re0170_02 71) (.none) (.str "law_re0170_02" 772) (.ref 250)) }),
  (255, { cls := .type "code", data := .fields #[.str "_law_due" 842, .str "_law_due" 843, .str "/claim/cut.py" 844, .int 262 0, .int 2 0, .int 0 0, .int 0 0, .int 3 0, .ref 252, .bool true, .int 276 0, .ref 253, .none, .none, .none, .ref 254, .int 845 0, .int 262 0, .str "/claim/cut.py" 846] }),
  (256, { cls := .type "function", data := .func (fdOf "_law_due" (parts pw_re0170_02 72) (.none) (.str "law_re0170_02" 772) (.ref 255)) }),
  (260, { cls := .type "code", data := .fields #[.str "law" 848, .str "law" 849, .str "/claim/cut.py" 850, .int 285 0, .int 1 0, .int 0 0, .int 0 0, .int 3 0, .ref 257, .bool true, .int 276 0, .ref 258, .none, .none, .none, .ref 259, .int 851 0, .int 285 0, .str "/claim/cut.py" 852] }),
  (261, { cls := .type "function", data := .func (fdOf "law" (parts pw_re0170_02 73) (.none) (.str "law_re0170_02" 772) (.ref 260)) })]
def as02 : List Addr := [194, 47, 48, 52, 53, 202, 203, 192, 193, 178, 179, 120, 121, 82, 83, 69, 75, 76, 181, 182, 209, 210, 214, 215, 221, 222, 228, 229, 235, 236, 240, 241, 245, 246, 250, 251, 255, 256, 260, 261]
def names02 : List (Str × Option Value) := [
  ("_law_bodies", some (.ref 210)),
  ("_law_rules", some (.ref 215)),
  ("_law_pieces", some (.ref 222)),
  ("_law_rows", some (.ref 229)),
  ("_law_put", some (.ref 236)),
  ("_law_sentences", some (.ref 241)),
  ("_law_lies", some (.ref 246)),
  ("_law_words", some (.ref 251)),
  ("_law_due", some (.ref 256)),
  ("law", some (.ref 261)),
  ("Headers", some (.ref 182)),
  ("ISTERMINAL", some (.ref 203)),
  ("NT_OFFSET", some (.int 256 666)),
  ("EXACT_TOKEN_TYPES", some (.ref 194)),
  ("_ellipsis_match", some (.ref 193)),
  ("ELLIPSIS_MARKER", some (.str "..." 554)),
  ("_name_disallowed_re", some (.ref 48)),
  ("_value_disallowed_re", some (.ref 53)),
  ("min", none),
  ("range", none),
  ("sum", none),
  ("list", none),
  ("zip", none),
  ("len", none),
  ("ord", none),
  ("type", none),
  ("str", none)]
def loose02 : List Str := (["_sre", "_wall", "tspecials", "_name_disallowed_re", "_value_disallowed_re", "_formatparam", "Headers", "ELLIPSIS_MARKER", "_ellipsis_match", "LPAR", "RPAR", "LSQB", "RSQB", "COLON", "COMMA", "SEMI", "PLUS", "MINUS", "STAR", "SLASH", "VBAR", "AMPER", "LESS", "GREATER", "EQUAL", "DOT", "PERCENT", "LBRACE", "RBRACE", "EQEQUAL", "NOTEQUAL", "LESSEQUAL", "GREATEREQUAL", "TILDE", "CIRCUMFLEX", "LEFTSHIFT", "RIGHTSHIFT", "DOUBLESTAR", "PLUSEQUAL", "MINEQUAL", "STAREQUAL", "SLASHEQUAL", "PERCENTEQUAL", "AMPEREQUAL", "VBAREQUAL", "CIRCUMFLEXEQUAL", "LEFTSHIFTEQUAL", "RIGHTSHIFTEQUAL", "DOUBLESTAREQUAL", "DOUBLESLASH", "DOUBLESLASHEQUAL", "AT", "ATEQUAL", "RARROW", "ELLIPSIS", "COLONEQUAL", "EXCLAMATION", "NT_OFFSET", "EXACT_TOKEN_TYPES", "ISTERMINAL", "_law_bodies", "_law_rules", "_law_pieces", "_law_rows", "_law_put", "_law_sentences", "_law_lies", "_law_words", "_law_due"] : List String).map Str.ofString
def q02 : Program := view pw_re0170_02 [73]

end Mine

/-! Fin2 -/
namespace Mine
open PySem PySem.W PySem.Calls PyProof.Rows PySem.Challenge
set_option Elab.async false
set_option maxRecDepth 100000
set_option maxHeartbeats 4000000

theorem isDef_at {K : List (Addr × Obj)} {f c : Addr} {fd : FuncData} {vs : Array Value} {t : Tok} (i j : Nat) (h1 : K[i]? = some (f, { cls := .type "function", data := .func fd })) (h2 : K[j]? = some (c, { cls := .type "code", data := .fields vs }))
    (hc : fd.code = .ref c) (hv : vs[1]? = some (.str fd.qualname t)) (h3 : fd.closure = []) (h4 : fd.globals = mainGlobals) (h5 : fd.builtins = builtinsNs) (h6 : fd.scope.kind = .function) (h7 : fd.scope.isGenerator = false) (h8 : fd.scope.isCoroutine = false) : IsDef K f fd :=
  ⟨_, List.mem_of_getElem? h1, rfl, h3, h4, h5, h6, h7, h8, c, _, vs, t, hc, List.mem_of_getElem? h2, rfl, hv⟩
theorem repD_exact {P : Params} {L : Look} : ∀ (l : List (List Nat × Int)) (ts : List (Tok × Tok)), l.length = ts.length →
    RepD P L (l.map fun e => (ofL e.1, PV.int e.2)) ((l.zip ts).map fun e => ⟨PyData.keyHash P (ofL e.1.1), .str (ofL e.1.1) e.2.1, .int e.1.2 e.2.2⟩)
  | [], [], _ => rfl
  | a :: l, b :: ts, h => ⟨_, _, _, rfl, ⟨_, rfl⟩, repD_exact l ts (by simpa using h)⟩
  | [], _ :: _, h => nomatch h
  | _ :: _, [], h => nomatch h
theorem gdict_of {P : Params} {K : List (Addr × Obj)} {a : Addr} {ts : List (Tok × Tok)} {n : Nat} (ha : (a == sysModules) = false) (h : (a, ({ cls := .type "dict", data := .dict (exactE P ts).toArray n } : Obj)) ∈ K) (hl : exactL.length = ts.length) : GDict P K a exactD :=
  ⟨ha, exactE P ts, n, fun _ _ _ G => G.k _ h, fun _ => repD_exact _ _ hl⟩

def s02 (P : Params) (mg : Str → Option Value) (h : ∀ e ∈ names02, mg e.1 = e.2) : S02 P mg (K02 P) where
  fB := 210
  fR := 215
  fI := 76
  fA := 179
  fc := 83
  fW := 229
  fG := 121
  fP := 222
  fT := 203
  fU := 236
  fS := 241
  fe := 193
  fL := 246
  fO := 251
  fD := 256
  an := 48
  tn := 47
  av := 53
  tv := 52
  Cl := 182
  da := 69
  ae := 194
  mB := _
  cB := _
  mR := _
  cR := _
  mI := _
  cI := _
  mA := _
  cA := _
  mc := _
  cc := _
  mW := _
  cW := _
  mG := _
  cG := _
  mP := _
  cP := _
  mT := _
  cT := _
  mU := _
  cU := _
  mS := _
  cS := _
  me := _
  ce := _
  mL := _
  cL := _
  mO := _
  cO := _
  mD := _
  cD := _
  hB := isDef_at 21 20 rfl rfl rfl rfl rfl rfl rfl rfl rfl rfl
  gB := h _ (List.mem_of_getElem? (i := 0) rfl)
  hR := isDef_at 23 22 rfl rfl rfl rfl rfl rfl rfl rfl rfl rfl
  gR := h _ (List.mem_of_getElem? (i := 1) rfl)
  hI := isDef_at 17 16 rfl rfl rfl rfl rfl rfl rfl rfl rfl rfl
  hda := ⟨0, List.mem_of_getElem? (i := 15) rfl⟩
  hA := isDef_at 10 9 rfl rfl rfl rfl rfl rfl rfl rfl rfl rfl
  mmA := ⟨by kernel_rfl, by kernel_rfl, by kernel_rfl, by kernel_rfl, by decide⟩
  hc := isDef_at 14 13 rfl rfl rfl rfl rfl rfl rfl rfl rfl rfl
  mmc := ⟨by kernel_rfl, by kernel_rfl, by kernel_rfl, by kernel_rfl, by decide⟩
  hcls := ⟨by kernel_rfl, by kernel_rfl, ⟨_, rfl, rfl⟩⟩
  hset := ⟨by kernel_rfl, by kernel_rfl, by kernel_rfl, by kernel_rfl⟩
  hmk := ⟨by kernel_rfl, by kernel_rfl, by kernel_rfl, by kernel_rfl⟩
  gCl := h _ (List.mem_of_getElem? (i := 10) rfl)
  hdr := ⟨h _ (List.mem_of_getElem? (i := 25) rfl), h _ (List.mem_of_getElem? (i := 26) rfl), h _ (List.mem_of_getElem? (i := 16) rfl), h _ (List.mem_of_getElem? (i := 17) rfl),
    ⟨⟨_, _, _, _, _, List.mem_of_getElem? (i := 2) rfl⟩, ⟨_, _, List.mem_of_getElem? (i := 1) rfl, by decide +kernel⟩⟩, ⟨⟨_, _, _, _, _, List.mem_of_getElem? (i := 4) rfl⟩, ⟨_, _, List.mem_of_getElem? (i := 3) rfl, by decide +kernel⟩⟩⟩
  hW := isDef_at 27 26 rfl rfl rfl rfl rfl rfl rfl rfl rfl rfl
  gW := h _ (List.mem_of_getElem? (i := 3) rfl)
  hG := isDef_at 12 11 rfl rfl rfl rfl rfl rfl rfl rfl rfl rfl
  mmG := ⟨by kernel_rfl, by kernel_rfl, by kernel_rfl, by kernel_rfl, by decide⟩
  hP := isDef_at 25 24 rfl rfl rfl rfl rfl rfl rfl rfl rfl rfl
  gP := h _ (List.mem_of_getElem? (i := 2) rfl)
  hT := isDef_at 6 5 rfl rfl rfl rfl rfl rfl rfl rfl rfl rfl
  gT := h _ (List.mem_of_getElem? (i := 11) rfl)
  ntT := 666
  gNT := h _ (List.mem_of_getElem? (i := 12) rfl)
  gae := h _ (List.mem_of_getElem? (i := 13) rfl)
  gdict := gdict_of rfl (List.mem_of_getElem? (i := 0) rfl) rfl
  hU := isDef_at 29 28 rfl rfl rfl rfl rfl rfl rfl rfl rfl rfl
  gU := h _ (List.mem_of_getElem? (i := 4) rfl)
  hS := isDef_at 31 30 rfl rfl rfl rfl rfl rfl rfl rfl rfl rfl
  gS := h _ (List.mem_of_getElem? (i := 5) rfl)
  he := isDef_at 8 7 rfl rfl rfl rfl rfl rfl rfl rfl rfl rfl
  ge := h _ (List.mem_of_getElem? (i := 14) rfl)
  emT := 554
  gEM := h _ (List.mem_of_getElem? (i := 15) rfl)
  hL := isDef_at 33 32 rfl rfl rfl rfl rfl rfl rfl rfl rfl rfl
  gL := h _ (List.mem_of_getElem? (i := 6) rfl)
  hO := isDef_at 35 34 rfl rfl rfl rfl rfl rfl rfl rfl rfl rfl
  gO := h _ (List.mem_of_getElem? (i := 7) rfl)
  hD := isDef_at 37 36 rfl rfl rfl rfl rfl rfl rfl rfl rfl rfl
  gD := h _ (List.mem_of_getElem? (i := 8) rfl)
  brange := h _ (List.mem_of_getElem? (i := 19) rfl)
  bsum := h _ (List.mem_of_getElem? (i := 20) rfl)
  blist := h _ (List.mem_of_getElem? (i := 21) rfl)
  bzip := h _ (List.mem_of_getElem? (i := 22) rfl)
  blen := h _ (List.mem_of_getElem? (i := 23) rfl)
  bord := h _ (List.mem_of_getElem? (i := 24) rfl)
theorem law_is02 (P : Params) : ∃ mod code, IsDef (K02 P) 261 (fdOf "law" (parts pw_re0170_02 73) .none mod code) := ⟨_, _, isDef_at 39 38 rfl rfl rfl rfl rfl rfl rfl rfl rfl rfl⟩
end Mine

/-! HeadL2 -/
namespace Mine
open PySem PySem.W PySem.Calls PyProof.Rows PySem.Challenge
set_option Elab.async false
set_option maxRecDepth 100000
set_option maxHeartbeats 0
theorem left02_0 (w : World) : (openG pw_re0170_02 (w.withFollow "special-get-raises" false) 6000).bind (seenG pw_re0170_02 q02 loose02 (fun _ => true) (obsT as02 (names02.map (·.1))) true (w.withFollow "special-get-raises" false) 6000) = some (true, openGood q02 loose02, valT K02 names02 (w.withFollow "special-get-raises" false)) := by kernel_rfl
theorem left02_1 (w : World) : (openG pw_re0170_02 (w.withFollow "special-get-raises" true) 6000).bind (seenG pw_re0170_02 q02 loose02 (fun _ => true) (obsT as02 (names02.map (·.1))) true (w.withFollow "special-get-raises" true) 6000) = some (true, openGood q02 loose02, valT K02 names02 (w.withFollow "special-get-raises" true)) := by kernel_rfl
theorem left02 : LeftO pw_re0170_02 q02 loose02 (fun _ => true) (obsT as02 (names02.map (·.1))) (valT K02 names02) 6000 := left_G "special-get-raises" left02_0 left02_1
end Mine

/-! HeadW2 -/
namespace Mine
open PySem PySem.W PySem.Calls PyProof.Rows PySem.Challenge
set_option Elab.async false
set_option maxRecDepth 100000
set_option maxHeartbeats 0
theorem and_true_of {a b : Bool} (x : a = true) (y : b = true) : (a && b) = true := by rw [x, y]; rfl
theorem said02 : rw_re0170_02.wellSaid = true := by
  rw [Fast.te9446332074065402090]
  unfold Fast.tw9446332074065402090
  refine and_true_of (and_true_of (and_true_of (and_true_of (and_true_of (and_true_of (and_true_of (and_true_of (and_true_of (and_true_of (and_true_of (and_true_of (and_true_of (and_true_of (and_true_of (and_true_of (and_true_of (and_true_of ?_ ?_) ?_) ?_) ?_) ?_) ?_) ?_) ?_) ?_) ?_) ?_) ?_) ?_) ?_) ?_) ?_) ?_) ?_
  case refine_1 =>
    unfold Fast.tw17960256430627541270
    refine and_true_of (and_true_of ?_ ?_) ?_
    case refine_1 =>
      unfold Fast.tw2436336058641802641
      refine and_true_of (and_true_of (and_true_of (and_true_of (and_true_of (and_true_of (and_true_of (and_true_of (and_true_of (and_true_of (and_true_of (and_true_of (and_true_of ?_ ?_) ?_) ?_) ?_) ?_) ?_) ?_) ?_) ?_) ?_) ?_) ?_) ?_
      case refine_1 =>
        unfold Fast.tw12908688711261696721
        refine and_true_of (and_true_of (and_true_of (and_true_of (and_true_of ?_ ?_) ?_) ?_) ?_) ?_
        all_goals (as_aux_lemma => kernel_rfl)
      all_goals (as_aux_lemma => kernel_rfl)
    all_goals (as_aux_lemma => kernel_rfl)
  all_goals (as_aux_lemma => kernel_rfl)
end Mine

/-! Fin2z -/
namespace Mine
open PySem PySem.W PySem.Calls PyProof.Rows PySem.Challenge
set_option Elab.async false
set_option maxRecDepth 100000
set_option maxHeartbeats 400000
noncomputable def obs02 : Shared → List (Option Obj) × Bool × Bool × List (Option Value) := obsT as02 (names02.map (·.1))
theorem ok02 : (chainsOk q02 && opensWell rw_re0170_02.row.prog && (frees rw_re0170_02.row.toRowW && rw_re0170_02.row.within.isEmpty)) = true := by
  refine and_true_of (and_true_of ?_ ?_) (and_true_of ?_ ?_)
  all_goals (as_aux_lemma => kernel_rfl)
theorem bare02 : rw_re0170_02.row.prog.bare := ⟨rfl, rfl, rfl, rfl, rfl, by decide +kernel⟩
theorem prom02 : rw_re0170_02.row.toRowW.promised := ⟨[.list [.int 3, .int 1]], by decide +kernel, by decide +kernel⟩
theorem fin02 (w : World) (mg mb : Str → Option Value) (h : ∀ e ∈ names02, mg e.1 = e.2) (ns : List Int) (hl : ns.length ≤ 63) : FnOk0 rw_re0170_02.prog w mg mb (K02 w.params) 261 (.list (ns.map .int)) (.bool true) 6 := by
  obtain ⟨mod, code, hd⟩ := law_is02 w.params
  exact law_ok hd (s02 w.params mg h) hl
theorem prog02 : rw_re0170_02.row.toRowW.prog = pw_re0170_02 := by kernel_rfl
theorem left02' : LeftO rw_re0170_02.row.toRowW.prog q02 loose02 (fun _ => true) obs02 (valT K02 names02) 6000 := by
  rw [prog02]; exact left02
theorem as02_eq (P : Params) : as02 = (K02 P).map (·.1) := by kernel_rfl
theorem hY02 : ∀ w s, obs02 s = valT K02 names02 w → saysT K02 names02 w s.heap := says_of as02_eq
theorem row02 (said : rw_re0170_02.row.wellSaid = true) : rw_re0170_02.row.Holds := by
  refine @holds_open rw_re0170_02.row q02 loose02 (fun _ => true) (fun _ _ => True) (List (Option Obj) × Bool × Bool × List (Option Value)) obs02 (valT K02 names02) (saysT K02 names02) _ _ 6000 left02' hY02 says_keeps
    (fun _ _ => trivial) (fun _ _ _ _ _ => trivial) (by rfl) (by rfl) (by rfl) (fun s _ => recFacts_nil rfl) (by rfl) said ok02 bare02 prom02 ?_
  exact call_of (l := rw_re0170_02) rfl rfl (f := 261) (n := 6) (List.mem_of_getElem? (i := 9) rfl) (by decide +kernel) (by decide +kernel) fin02
end Mine
theorem PySem.Challenge.cw_re0170_02_holds : PySem.Challenge.rw_re0170_02.Holds := by
  exact PySem.W.holds_law Mine.said02 Mine.row02
