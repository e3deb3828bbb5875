import PyProof.Rows.All
import Wide.All
import OpenK.AllK
import Wide.FinOn
import PySem.Challenge.RW_wv0002_01
open PySem PySem.W PySem.Calls PyProof.Rows
set_option Elab.async false
set_option maxRecDepth 100000
namespace Mine

/-! ## the state: a base state, what is known of objects (the ledger) -/
abbrev Slot := Obj → Prop
abbrev Led := List (Addr × Slot)

def nsS (m : Str → Option Value) : Slot := fun o => ∃ es ep, o.data = .dict es ep ∧ StrKeys es ∧ ∀ name, nsFind es name = m name
def cellS (v : Option Value) : Slot := fun o => o.data = .cell v
def listS (its : Array Value) : Slot := fun o => o.cls = .type "list" ∧ o.dict = none ∧ ∃ n, o.data = .seq its n

structure Mm (s₀ : Shared) (g : Array GenState) (ok : Bool) (led : Led) (s : Shared) : Prop where
  same : ∃ h tk, s = { s₀ with heap := h, toks := tk, gens := g }
  keep : ∀ b o, s₀.heap.get? b = some o → s.heap.get? b = some o
  has : ∀ p ∈ led, ∃ o, s.heap.get? p.1 = some o ∧ p.2 o
  own : ok = true → (∀ p ∈ led, s₀.heap.get? p.1 = none) ∧ (led.map (·.1)).Nodup

theorem fresh_none (h : Heap) : h.get? h.objs.size = none := by
  cases e : h.get? h.objs.size with
  | none => rfl
  | some o => exact absurd (Heap.lt_size e) (Nat.lt_irrefl _)

namespace Mm
variable {s₀ s : Shared} {g : Array GenState} {ok : Bool} {led led' : Led} {a : Addr} {P P' : Slot}

theorem start (s : Shared) (ok : Bool) : Mm s s.gens ok [] s := ⟨⟨_, _, rfl⟩, fun _ _ e => e, fun _ hp => (nomatch hp), fun _ => ⟨fun _ hp => (nomatch hp), List.nodup_nil⟩⟩

theorem kept (M : Mm s₀ g ok led s) {h' : Heap} {tk : Nat} (hk : ∀ b o, s.heap.get? b = some o → h'.get? b = some o) : Mm s₀ g ok led { s with heap := h', toks := tk } := by
  obtain ⟨⟨h, t, rfl⟩, keep, has, own⟩ := M
  exact ⟨⟨_, _, rfl⟩, fun b o e => hk b o (keep b o e), fun p hp => let ⟨o, ho, hP⟩ := has p hp; ⟨o, hk _ _ ho, hP⟩, own⟩
theorem tok (M : Mm s₀ g ok led s) {tk : Nat} : Mm s₀ g ok led { s with toks := tk } := M.kept fun _ _ e => e

theorem row (M : Mm s₀ g ok led s) (hm : (a, P) ∈ led) : ∃ o, s.heap.get? a = some o ∧ P o := M.has _ hm

theorem old_none (M : Mm s₀ g ok led s) (ha : s.heap.get? a = none) : s₀.heap.get? a = none := by
  cases e : s₀.heap.get? a with
  | none => rfl
  | some o => rw [M.keep _ _ e] at ha; cases ha

theorem add (M : Mm s₀ g ok led s) (ha : s.heap.get? a = none) {h' : Heap} {tk : Nat} {o : Obj} (hk : ∀ b o, s.heap.get? b = some o → h'.get? b = some o) (ho : h'.get? a = some o) (hP : P o) :
    Mm s₀ g ok ((a, P) :: led) { s with heap := h', toks := tk } := by
  have K := M.kept (tk := tk) hk
  refine ⟨K.same, K.keep, fun p hp => ?_, fun hok => ⟨fun p hp => ?_, ?_⟩⟩
  · rcases List.mem_cons.mp hp with rfl | hp
    · exact ⟨o, ho, hP⟩
    · exact K.has p hp
  · rcases List.mem_cons.mp hp with rfl | hp
    · exact M.old_none ha
    · exact (M.own hok).1 p hp
  · rw [List.map_cons]
    refine List.nodup_cons.mpr ⟨fun hm => ?_, (M.own hok).2⟩
    obtain ⟨p, hp, hpa⟩ := List.mem_map.mp hm
    obtain ⟨o', ho', _⟩ := M.has p hp
    rw [hpa, ha] at ho'; cases ho'

theorem sub (M : Mm s₀ g ok led s) (h : led'.Sublist led) : Mm s₀ g ok led' s :=
  ⟨M.same, M.keep, fun p hp => M.has p (h.subset hp), fun hok => ⟨fun p hp => (M.own hok).1 p (h.subset hp), (M.own hok).2.sublist (h.map _)⟩⟩
theorem tail {p : Addr × Slot} (M : Mm s₀ g ok (p :: led) s) : Mm s₀ g ok led s := M.sub (List.sublist_cons_self ..)

theorem one {p : Addr × Slot} (M : Mm s₀ g ok (p :: led) s) : Mm s₀ g ok [p] s := M.sub (.cons_cons _ (List.nil_sublist _))
theorem noRow (M : Mm s₀ g ok led s) : Mm s₀ g ok [] s := M.sub (List.nil_sublist _)

/-- only for reading -/
theorem pick (M : Mm s₀ g ok led s) (h : ∀ p ∈ led', p ∈ led) : Mm s₀ g false led' s :=
  ⟨M.same, M.keep, fun p hp => M.has p (h p hp), fun x => (nomatch x)⟩
theorem rebase (M : Mm s₀ g ok led s) (h : ∀ p ∈ led', p ∈ led) : Mm s s.gens false led' s :=
  ⟨⟨_, _, rfl⟩, fun _ _ e => e, fun p hp => M.has p (h p hp), fun x => (nomatch x)⟩
theorem gens (M : Mm s₀ g ok led s) : s.gens = g := by obtain ⟨⟨h, t, rfl⟩, _⟩ := M; rfl
theorem os (M : Mm s₀ g ok led s) : s.os = s₀.os := by obtain ⟨⟨h, t, rfl⟩, _⟩ := M; rfl
theorem keeps (M : Mm s₀ s₀.gens ok led s) : Keeps s₀ s := by
  obtain ⟨⟨h, t, rfl⟩, keep, _⟩ := M
  exact ⟨h, t, rfl, keep⟩
/-- a callee's outcome over the caller's -/
theorem trans {s' : Shared} {g' : Array GenState} {ok' : Bool} (M : Mm s₀ g ok led s) (N : Mm s g' true led' s') (hok : ok' = true → ok = true) : Mm s₀ g' ok' (led' ++ led) s' := by
  obtain ⟨⟨h, t, rfl⟩, keep, has, own⟩ := M
  obtain ⟨⟨h', t', rfl⟩, keep', has', own'⟩ := N
  refine ⟨⟨_, _, rfl⟩, fun b o e => keep' b o (keep b o e), fun p hp => ?_, fun hx => ⟨fun p hp => ?_, ?_⟩⟩
  · rcases List.mem_append.mp hp with hp | hp
    · exact has' p hp
    · obtain ⟨o, ho, hP⟩ := has p hp
      exact ⟨o, keep' _ _ ho, hP⟩
  · rcases List.mem_append.mp hp with hp | hp
    · have := (own' rfl).1 p hp
      cases e : s₀.heap.get? p.1 with
      | none => rfl
      | some o => rw [keep _ _ e] at this; cases this
    · exact (own (hok hx)).1 p hp
  · rw [List.map_append]
    refine List.nodup_append.mpr ⟨(own' rfl).2, (own (hok hx)).2, fun x hx' y hy e => ?_⟩
    obtain ⟨p, hp, rfl⟩ := List.mem_map.mp hx'
    obtain ⟨q, hq, rfl⟩ := List.mem_map.mp hy
    obtain ⟨o, ho, _⟩ := has q hq
    have z := (own' rfl).1 p hp
    rw [e] at z
    rw [z] at ho
    cases ho
end Mm

/-- one row of the ledger changed -/
inductive Put (a : Addr) (P P' : Slot) : Led → Led → Prop
  | head {r} : Put a P P' ((a, P) :: r) ((a, P') :: r)
  | tail {p r r'} : Put a P P' r r' → Put a P P' (p :: r) (p :: r')
theorem Put.mem {a : Addr} {P P' : Slot} : ∀ {l l' : Led}, Put a P P' l l' → (a, P) ∈ l
  | _, _, .head => .head _
  | _, _, .tail h => .tail _ h.mem
theorem Put.adr {a : Addr} {P P' : Slot} : ∀ {l l' : Led}, Put a P P' l l' → l'.map (·.1) = l.map (·.1)
  | _, _, .head => rfl
  | _, _, .tail h => by rw [List.map_cons, List.map_cons, h.adr]
theorem Put.of_mem {a : Addr} {P P' : Slot} : ∀ {l l' : Led}, Put a P P' l l' → (l.map (·.1)).Nodup → ∀ p ∈ l', (p = (a, P')) ∨ (p ∈ l ∧ p.1 ≠ a)
  | _, _, .head (r := r), hn, p, hp => by
    rw [List.map_cons, List.nodup_cons] at hn
    rcases List.mem_cons.mp hp with rfl | hp
    · exact .inl rfl
    · exact .inr ⟨.tail _ hp, fun e => hn.1 (e ▸ List.mem_map_of_mem (f := (·.1)) hp)⟩
  | _, _, .tail (p := q) h, hn, p, hp => by
    rw [List.map_cons, List.nodup_cons] at hn
    rcases List.mem_cons.mp hp with rfl | hp
    · exact .inr ⟨.head _, fun e => hn.1 (e ▸ List.mem_map_of_mem (f := (·.1)) h.mem)⟩
    · rcases h.of_mem hn.2 p hp with h1 | h1
      · exact .inl h1
      · exact .inr ⟨.tail _ h1.1, h1.2⟩

namespace Mm
variable {s₀ s : Shared} {g : Array GenState} {led led' : Led} {a : Addr} {P P' : Slot}
theorem put (M : Mm s₀ g true led s) (h : Put a P P' led led') {h' : Heap} {tk : Nat} {o : Obj} (hk : ∀ b o, b ≠ a → s.heap.get? b = some o → h'.get? b = some o) (ho : h'.get? a = some o) (hP : P' o) :
    Mm s₀ g true led' { s with heap := h', toks := tk } := by
  have hn := (M.own rfl).1 _ h.mem
  obtain ⟨⟨hh, t, rfl⟩, keep, has, own⟩ := M
  refine ⟨⟨_, _, rfl⟩, fun b o e => hk b o (fun z => ?_) (keep b o e), fun p hp => ?_, fun _ => ⟨fun p hp => ?_, ?_⟩⟩
  · subst z; rw [hn] at e; cases e
  · rcases h.of_mem (own rfl).2 p hp with rfl | ⟨hp', hne⟩
    · exact ⟨o, ho, hP⟩
    · obtain ⟨o', ho', hP'⟩ := has p hp'
      exact ⟨o', hk _ _ hne ho', hP'⟩
  · rcases h.of_mem (own rfl).2 p hp with rfl | ⟨hp', _⟩
    · exact hn
    · exact (own rfl).1 p hp'
  · rw [h.adr]; exact (own rfl).2
end Mm

/-! ## names -/
def look : List (Str × Value) → Str → Option Value
  | [], _ => none
  | (k, v) :: r, x => if x = k then some v else look r x
def put (x : Str) (v : Value) : List (Str × Value) → List (Str × Value)
  | [] => [(x, v)]
  | (k, u) :: r => if x = k then (k, v) :: r else (k, u) :: put x v r
theorem look_put (x : Str) (v : Value) (y : Str) : ∀ l, look (put x v l) y = if y = x then some v else look l y
  | [] => rfl
  | (k, u) :: r => by
    unfold put
    by_cases h : x = k
    · subst h
      rw [if_pos rfl]
      show (if y = x then _ else _) = _
      by_cases hy : y = x
      · rw [if_pos hy, if_pos hy]
      · rw [if_neg hy, if_neg hy]; show look r y = if y = x then some u else look r y; rw [if_neg hy]
    · rw [if_neg h]
      show (if y = k then some u else look (put x v r) y) = if y = x then some v else (if y = k then some u else look r y)
      rw [look_put x v y r]
      by_cases hy : y = k
      · rw [if_pos hy, if_neg (fun e => h (e.symm.trans hy)), if_pos hy]
      · rw [if_neg hy, if_neg hy]

section
variable {prog : Program} {w : World} {A : Around} {E : Value → Shared → Prop} {s₀ s : Shared} {g : Array GenState} {ok : Bool} {led led' : Led} {env : Env}

theorem ns_of {m : Str → Option Value} (M : Mm s₀ g ok led s) {L : Addr} (hm : (L, nsS m) ∈ led) : s.heap.Ns L m :=
  let ⟨o, ho, es, ep, hd, hs, hf⟩ := M.row hm; ⟨o, es, ep, ho, hd, hs, hf⟩
theorem list_of {its : Array Value} (M : Mm s₀ g ok led s) {l : Addr} (hm : (l, listS its) ∈ led) : PlainL s.heap l its :=
  let ⟨o, ho, hc, hd, n, hs⟩ := M.row hm; ⟨o, n, ho, hc, hd, hs⟩

theorem ldL {x : Str} {pos : Pos} {v : Value} {m : Str → Option Value} {Q : Value → Shared → Prop} (M : Mm s₀ g ok led s) (hm : (env.locals, nsS m) ∈ led) (hv : m x = some v) (h : Q v s)
    (hk : env.scope.kind = .function := by rfl) (hl : env.kindOf x = some .local := by rfl) (hd : (x == ("__debug__" : Str)) = false := by rfl) :
    wpAny (model prog w) A (eval (.Name x pos) env) Q E s := wpAny_Name (wpAny_loadName_local hk hl (ns_of M hm) hv h) hd
theorem ldL' {x : Str} {v : Value} {m : Str → Option Value} {Q : Value → Shared → Prop} (M : Mm s₀ g ok led s) (hm : (env.locals, nsS m) ∈ led) (hv : m x = some v) (h : Q v s)
    (hk : env.scope.kind = .function := by rfl) (hl : env.kindOf x = some .local := by rfl) :
    wpAny (model prog w) A (loadName env x) Q E s := wpAny_loadName_local hk hl (ns_of M hm) hv h
theorem stL {x : Str} {v : Value} {l : List (Str × Value)} {Q : Unit → Shared → Prop} (M : Mm s₀ g true led s) (hp : Put env.locals (nsS (look l)) (nsS (look (put x v l))) led led')
    (h : ∀ s', Mm s₀ g true led' s' → Q () s') (hk : env.scope.kind = .function := by rfl) (hl : env.kindOf x = some .local := by rfl) :
    wpAny (model prog w) A (storeName env x v) Q E s :=
  wpAny_storeName_local hl (ns_of M hp.mem) (fun h' hn' hs' => h _ (by
    obtain ⟨o, es, ep, ho, hd, hs, hf⟩ := hn'
    exact M.put hp (fun b o hb e => (hs'.2 b hb).trans e) ho ⟨es, ep, hd, hs, fun name => by rw [hf, look_put]⟩)) (by rw [hk]; rfl)

theorem cell_of {v : Option Value} (M : Mm s₀ g ok led s) {c : Addr} (hm : (c, cellS v) ∈ led) : s.heap.IsCell c v := let ⟨o, ho, hd⟩ := M.row hm; ⟨o, ho, hd⟩
theorem ldC {x : Str} {pos : Pos} {c : Addr} {v : Value} {Q : Value → Shared → Prop} (M : Mm s₀ g ok led s) (hc : env.cells.lookup x = some c) (hm : (c, cellS (some v)) ∈ led) (h : Q v s)
    (hk : env.scope.kind = .function := by rfl) (hl : env.kindOf x = some .cell := by rfl) (hd : (x == ("__debug__" : Str)) = false := by rfl) :
    wpAny (model prog w) A (eval (.Name x pos) env) Q E s := wpAny_Name (wpAny_loadName_cell hk hl hc (cell_of M hm) h) hd
theorem stC {x : Str} {c : Addr} {v : Value} {u : Option Value} {Q : Unit → Shared → Prop} (M : Mm s₀ g true led s) (hc : env.cells.lookup x = some c) (hp : Put c (cellS u) (cellS (some v)) led led')
    (h : ∀ s', Mm s₀ g true led' s' → Q () s') (hk : env.scope.kind = .function := by rfl) (hl : env.kindOf x = some .cell := by rfl) :
    wpAny (model prog w) A (storeName env x v) Q E s :=
  wpAny_storeName_cell hk hl hc (cell_of M hp.mem) fun h' hc' hs' => by
    obtain ⟨o, ho, hd⟩ := hc'
    exact h _ (M.put (tk := s.toks) hp (fun b o hb e => (hs'.2 b hb).trans e) ho hd)
end
end Mine

namespace Mine

/-! ## the program's parts, read out of the row's own term -/
def noDef : DefRec := ⟨"", { posonlyargs := [], args := [], vararg := none, kwonlyargs := [], kw_defaults := [], kwarg := none, defaults := [] }, [], { kind := .function, names := [], isGenerator := false, isCoroutine := false, more := [] }, ⟨0, 0, 0, 0⟩⟩
def defOfS : Stmt → DefRec
  | .FunctionDef n a b _ _ _ sc _ _ p => ⟨n, a, b, sc, p⟩
  | _ => noDef
def defAt (i : Nat) : DefRec := defOfS (PySem.Challenge.pw_wv0002_01.main.body.getD i (.Pass ⟨0, 0, 0, 0⟩))
def dIter := defAt 1
def dStrip := defAt 2
def dCheck := defAt 3
def dAhead := defAt 5
def dFree := defAt 6
def dLaw := defAt 7
def theDefs : List DefRec := [dIter, dStrip, dCheck, dAhead, dFree]
def theBi : List (Str × Value) := [("len", .builtin "len"), ("range", .type "range"), ("enumerate", .type "enumerate"), ("list", .type "list"), ("min", .builtin "min")]

def FnAt (d : DefRec) (a : Addr) (h : Heap) : Prop := ∃ o pm cd doc, h.get? a = some o ∧ o.data = .func (docDef d.name d.params d.body d.scope pm cd doc) ∧ h.CodeRec cd d.name
structure Base (mg mb : Str → Option Value) (h : Heap) : Prop where
  g : h.Ns mainGlobals mg
  b : h.Ns builtinsNs mb
  nl : h.NoLimit
  fn : ∀ d ∈ theDefs, ∃ a, mg d.name = some (.ref a) ∧ FnAt d a h
  bi : ∀ p ∈ theBi, mg p.1 = none ∧ mb p.1 = some p.2
theorem FnAt.keeps {d : DefRec} {a : Addr} {h h' : Heap} (F : FnAt d a h) (hk : ∀ b o, h.get? b = some o → h'.get? b = some o) : FnAt d a h' :=
  let ⟨o, pm, cd, doc, h1, h2, h3⟩ := F; ⟨o, pm, cd, doc, hk _ _ h1, h2, h3.keeps hk⟩
theorem Base.keeps {mg mb : Str → Option Value} {h h' : Heap} (B : Base mg mb h) (hk : ∀ b o, h.get? b = some o → h'.get? b = some o) : Base mg mb h' :=
  ⟨B.g.keeps hk, B.b.keeps hk, B.nl.keeps hk, fun d hd => let ⟨a, h1, h2⟩ := B.fn d hd; ⟨a, h1, h2.keeps hk⟩, B.bi⟩

structure AOk (n : Nat) (A : Around) : Prop where
  hh : A.handled = none
  hd : A.depth + n < recursionLimit
  hu : A.units + 100 + 10 * n < cLine
theorem AOk.deeper {n : Nat} {A : Around} {env : Env} (h : AOk (n + 1) A) : AOk n (A.deeper env) :=
  ⟨h.hh, by have := h.hd; show A.depth + 1 + n < _; omega, by have := h.hu; show A.units + 3 + 100 + 10 * n < _; omega⟩
theorem AOk.in1 {n : Nat} {A : Around} (h : AOk (n + 1) A) : AOk n A.in1 :=
  ⟨h.hh, by have := h.hd; show A.depth + n < _; omega, by have := h.hu; show A.units + 1 + 100 + 10 * n < _; omega⟩
theorem AOk.less {n m : Nat} {A : Around} (h : AOk n A) (hm : m ≤ n) : AOk m A := ⟨h.hh, by have := h.hd; omega, by have := h.hu; omega⟩

def fenv (d : DefRec) (L a : Addr) (cd : Value) (cs : List (Str × Addr)) : Env :=
  { scope := d.scope, locals := L, globals := mainGlobals, cells := cs, qual := d.name ++ ".<locals>.", func := some a, code := cd, frame := some L, builtins := builtinsNs }

theorem look_lookup : ∀ (l : List (Str × Value)) (x : Str), l.lookup x = look l x
  | [], _ => rfl
  | (k, v) :: r, x => by
    rw [List.lookup_cons]
    show _ = if x = k then some v else look r x
    by_cases h : x = k
    · subst h; simp
    · have : (x == k) = false := by simpa using h
      rw [this, if_neg h]
      exact look_lookup r x

section
variable {prog : Program} {w : World} {A : Around} {E : Value → Shared → Prop} {s₀ s : Shared} {g : Array GenState} {ok : Bool} {led led' : Led} {env : Env} {mg mb : Str → Option Value}

theorem FnAt.call {d : DefRec} {a : Addr} {Q : Value → Shared → Prop} {vals : List Value} {binds : List (Str × Value)} (F : FnAt d a s.heap) (nl : s.heap.NoLimit) (hd : A.depth < recursionLimit)
    (hbind : ∀ pm cd doc, bindArgs (docDef d.name d.params d.body d.scope pm cd doc) ⟨vals, []⟩ = pure binds)
    (hcell : ∀ x ∈ d.scope.names, x.2 ≠ .cell) (hloc : ∀ x ∈ binds, d.scope.names.lookup x.1 = some .local)
    (h : ∀ L cd s₁, Mm s s.gens true [(L, nsS (look binds.reverse))] s₁ →
      wpAny (model prog w) (A.deeper (fenv d L a cd [])) (execs d.body (fenv d L a cd [])) (fun f s' => Q (match f with | .ret v => v | _ => .none) s') (fun _ _ => False) s₁)
    (hco : d.scope.isCoroutine = false := by rfl) (hgen : d.scope.isGenerator = false := by rfl) (hk : d.scope.kind = .function := by rfl) :
    wpAny (model prog w) A (call (.ref a) vals) Q E s := by
  obtain ⟨o, pm, cd, doc, ho, hdata, hcd⟩ := F
  refine wpAny_call (codeAny_call_straight hd ho hdata nl hcd rfl (hbind pm cd doc) hcell hloc (fun s₁ x => ?_) hco hgen hk)
  have hM : Mm s s.gens true [(s.heap.objs.size, nsS (fun x => binds.reverse.lookup x))] s₁ := by
    obtain ⟨⟨h', tk, rfl⟩, hns, keep, _⟩ := x
    obtain ⟨o, es, ep, ho, r⟩ := hns
    refine ⟨⟨h', tk, rfl⟩, keep, fun p hp => ?_, fun _ => ⟨fun p hp => ?_, by simp⟩⟩
    · rw [List.mem_singleton.mp hp]; exact ⟨o, ho, es, ep, r⟩
    · rw [List.mem_singleton.mp hp]; exact fresh_none _
  rw [show (fun x => binds.reverse.lookup x) = look binds.reverse from funext (look_lookup _)] at hM
  exact wpAny_mono (h _ cd s₁ hM) (fun f s' hq => hq) fun _ _ f => f.elim

theorem ldB {x : Str} {pos : Pos} {v : Value} {Q : Value → Shared → Prop} (B : Base mg mb s₀.heap) (M : Mm s₀ g ok led s) (hx : (x, v) ∈ theBi) (h : Q v s)
    (hk : env.scope.kind = .function := by rfl) (hl : env.kindOf x = some .globalImplicit := by rfl) (hg : env.globals = mainGlobals := by rfl) (hb : env.builtins = builtinsNs := by rfl) (hd : (x == ("__debug__" : Str)) = false := by rfl) :
    wpAny (model prog w) A (eval (.Name x pos) env) Q E s :=
  Calls.Name_function_global hk hl (Calls.loadGlobal_builtin (by rw [hg]; exact B.g.keeps M.keep) (B.bi _ hx).1 (by rw [hb]; exact B.b.keeps M.keep) (B.bi _ hx).2 h) hd
theorem ldF {x : Str} {pos : Pos} {a : Addr} {Q : Value → Shared → Prop} (B : Base mg mb s₀.heap) (M : Mm s₀ g ok led s) (hx : mg x = some (.ref a)) (h : Q (.ref a) s)
    (hk : env.scope.kind = .function := by rfl) (hl : env.kindOf x = some .globalImplicit := by rfl) (hg : env.globals = mainGlobals := by rfl) (hd : (x == ("__debug__" : Str)) = false := by rfl) :
    wpAny (model prog w) A (eval (.Name x pos) env) Q E s :=
  Calls.Name_function_global hk hl (Calls.loadGlobal_global (by rw [hg]; exact B.g.keeps M.keep) hx h) hd
end
end Mine

namespace Mine

section
variable {prog : Program} {w : World} {A : Around} {E : Value → Shared → Prop} {s₀ s : Shared} {g : Array GenState} {ok : Bool} {led led' : Led} {env : Env} {mg mb : Str → Option Value}

theorem cInt {i : Int} {k : Nat} {pos : Pos} {Q : Value → Shared → Prop} (M : Mm s₀ g ok led s) (h : ∀ t s', Mm s₀ g ok led s' → Q (.int i t) s') : wpAny (model prog w) A (eval (.Constant (.int i) k pos) env) Q E s :=
  wpAny_Constant_int (h _ _ M.tok)
theorem cStr {x : Str} {k : Nat} {pos : Pos} {Q : Value → Shared → Prop} (M : Mm s₀ g ok led s) (h : ∀ t s', Mm s₀ g ok led s' → Q (.str x t) s') : wpAny (model prog w) A (eval (.Constant (.str x) k pos) env) Q E s :=
  Calls.Constant_str (h _ _ M.tok)
theorem addI {a b : Int} {t u : Tok} {Q : Value → Shared → Prop} (M : Mm s₀ g ok led s) (h : ∀ t s', Mm s₀ g ok led s' → Q (.int (a + b) t) s') : wpAny (model prog w) A (binaryOp .Add (.int a t) (.int b u)) Q E s :=
  P.add_int (h _ _ M.tok)
theorem subI {a b : Int} {t u : Tok} {Q : Value → Shared → Prop} (M : Mm s₀ g ok led s) (h : ∀ t s', Mm s₀ g ok led s' → Q (.int (a - b) t) s') : wpAny (model prog w) A (binaryOp .Sub (.int a t) (.int b u)) Q E s :=
  P.sub_int (h _ _ M.tok)
theorem modI {a b : Int} {t u : Tok} {Q : Value → Shared → Prop} (M : Mm s₀ g ok led s) (hb : b ≠ 0) (h : ∀ t s', Mm s₀ g ok led s' → Q (.int (a.fmod b) t) s') : wpAny (model prog w) A (binaryOp .Mod (.int a t) (.int b u)) Q E s :=
  PyProof.Rows.mod_int' hb (h _ _ M.tok)
theorem addS {x y : Str} {t u : Tok} {Q : Value → Shared → Prop} (M : Mm s₀ g ok led s) (hsz : x.length + y.length ≤ sizeLine) (h : ∀ t s', Mm s₀ g ok led s' → Q (.str (x ++ y) t) s') : wpAny (model prog w) A (binaryOp .Add (.str x t) (.str y u)) Q E s :=
  PyProof.Rows.add_str (fun t' tk => h _ _ M.tok) hsz
theorem lenS {x : Str} {t : Tok} {Q : Value → Shared → Prop} (M : Mm s₀ g ok led s) (hsz : x.length ≤ sizeLine) (h : ∀ t s', Mm s₀ g ok led s' → Q (.int x.length t) s') : wpAny (model prog w) A (call (.builtin "len") [.str x t]) Q E s :=
  P.len_str (by rw [sizeLine_eq] at hsz; omega) (h _ _ M.tok)
theorem lenL {l : Addr} {its : Array Value} {Q : Value → Shared → Prop} (M : Mm s₀ g ok led s) (hm : (l, listS its) ∈ led) (hsz : its.size ≤ sizeLine) (h : ∀ t s', Mm s₀ g ok led s' → Q (.int its.size t) s') : wpAny (model prog w) A (call (.builtin "len") [.ref l]) Q E s :=
  Calls.call_len_list (list_of M hm).isList (by rw [sizeLine_eq] at hsz; omega) (h _ _ M.tok)

theorem callWithV {pos : Pos} {f : Value} {first : List Value} {args : List (Bool × Sem Value)} {Q : Value → Shared → Prop} (hf : keeperOf f = pure .machine) (hplain : args.any (·.1) = false)
    (h : wpAny (model prog w) A (evalArgs f true args []) (fun a s₁ => wpAny (model prog w) A (call f (first ++ a.pos) a.kw) Q E s₁) E s) :
    wpAny (model prog w) A (callWith pos f first args []) Q E s := by
  unfold callWith
  refine wpAny_bind (wpAny_holding (wpAny_mono h (fun a s₁ h₁ => wpAny_bind (wpAny_standAt ?_)) fun _ _ x => x))
  simp only [hplain, List.any_nil, Bool.or_false]
  refine wpAny_bind (wpAny_of_eq hf ?_)
  exact wpAny_bind (wpAny_mono h₁ (fun r s₂ hr => wpAny_bind (wpAny_holding (wpAny_point (wpAny_pure hr)))) fun _ _ x => x)

/-- a builtin (function or type) called by its name on one argument -/
theorem callB1 {x : Str} {f : Value} {xp pos : Pos} {e : Expr} {Q : Value → Shared → Prop} (B : Base mg mb s₀.heap) (M : Mm s₀ g ok led s) (hx : (x, f) ∈ theBi)
    (h : wpAny (model prog w) A (eval e env) (fun v s₁ => wpAny (model prog w) A (call f [v]) Q E s₁) E s)
    (hf : keeperOf f = pure .machine := by rfl) (ht : backTo pos (starEach [e] env) = [(false, eval e env)] := by rfl)
    (hk : env.scope.kind = .function := by rfl) (hl : env.kindOf x = some .globalImplicit := by rfl) (hg : env.globals = mainGlobals := by rfl) (hb : env.builtins = builtinsNs := by rfl) (hd : (x == ("__debug__" : Str)) = false := by rfl) :
    wpAny (model prog w) A (eval (.Call (.Name x xp) [e] [] pos) env) Q E s := by
  show wpAny _ _ (do callWith pos (← eval (.Name x xp) env) [] (backTo pos (starEach [e] env)) (backToKw pos (keywordEach [] env))) _ _ _
  refine wpAny_bind (ldB B M hx ?_ hk hl hg hb hd)
  rw [ht]
  exact callWithV hf rfl (Calls.evalArgs_plain (Calls.spliced_cons (wpAny_mono h (fun v s₁ h₁ => Calls.spliced_nil h₁) fun _ _ e => e)))
theorem callB2 {x : Str} {f : Value} {xp pos : Pos} {e e' : Expr} {Q : Value → Shared → Prop} (B : Base mg mb s₀.heap) (M : Mm s₀ g ok led s) (hx : (x, f) ∈ theBi)
    (h : wpAny (model prog w) A (eval e env) (fun v s₁ => wpAny (model prog w) A (eval e' env) (fun v' s₂ => wpAny (model prog w) A (call f [v, v']) Q E s₂) E s₁) E s)
    (hf : keeperOf f = pure .machine := by rfl) (ht : backTo pos (starEach [e, e'] env) = [(false, eval e env), (false, eval e' env)] := by rfl)
    (hk : env.scope.kind = .function := by rfl) (hl : env.kindOf x = some .globalImplicit := by rfl) (hg : env.globals = mainGlobals := by rfl) (hb : env.builtins = builtinsNs := by rfl) (hd : (x == ("__debug__" : Str)) = false := by rfl) :
    wpAny (model prog w) A (eval (.Call (.Name x xp) [e, e'] [] pos) env) Q E s := by
  show wpAny _ _ (do callWith pos (← eval (.Name x xp) env) [] (backTo pos (starEach [e, e'] env)) (backToKw pos (keywordEach [] env))) _ _ _
  refine wpAny_bind (ldB B M hx ?_ hk hl hg hb hd)
  rw [ht]
  exact callWithV hf rfl (Calls.evalArgs_plain (Calls.spliced_cons (wpAny_mono h (fun v s₁ h₁ => Calls.spliced_cons (wpAny_mono h₁ (fun v' s₂ h₂ => Calls.spliced_nil h₂) fun _ _ e => e)) fun _ _ e => e)))
theorem callB3 {x : Str} {f : Value} {xp pos : Pos} {e e' e'' : Expr} {Q : Value → Shared → Prop} (B : Base mg mb s₀.heap) (M : Mm s₀ g ok led s) (hx : (x, f) ∈ theBi)
    (h : wpAny (model prog w) A (eval e env) (fun v s₁ => wpAny (model prog w) A (eval e' env) (fun v' s₂ => wpAny (model prog w) A (eval e'' env) (fun v'' s₃ => wpAny (model prog w) A (call f [v, v', v'']) Q E s₃) E s₂) E s₁) E s)
    (hf : keeperOf f = pure .machine := by rfl) (ht : backTo pos (starEach [e, e', e''] env) = [(false, eval e env), (false, eval e' env), (false, eval e'' env)] := by rfl)
    (hk : env.scope.kind = .function := by rfl) (hl : env.kindOf x = some .globalImplicit := by rfl) (hg : env.globals = mainGlobals := by rfl) (hb : env.builtins = builtinsNs := by rfl) (hd : (x == ("__debug__" : Str)) = false := by rfl) :
    wpAny (model prog w) A (eval (.Call (.Name x xp) [e, e', e''] [] pos) env) Q E s := by
  show wpAny _ _ (do callWith pos (← eval (.Name x xp) env) [] (backTo pos (starEach [e, e', e''] env)) (backToKw pos (keywordEach [] env))) _ _ _
  refine wpAny_bind (ldB B M hx ?_ hk hl hg hb hd)
  rw [ht]
  exact callWithV hf rfl (Calls.evalArgs_plain (Calls.spliced_cons (wpAny_mono h (fun v s₁ h₁ => Calls.spliced_cons (wpAny_mono h₁ (fun v' s₂ h₂ => Calls.spliced_cons (wpAny_mono h₂ (fun v'' s₃ h₃ => Calls.spliced_nil h₃) fun _ _ e => e)) fun _ _ e => e)) fun _ _ e => e)))

/-- one of the text's own functions called by its name -/
theorem callF1 {d : DefRec} {x : Str} {xp pos : Pos} {e : Expr} {Q : Value → Shared → Prop} (B : Base mg mb s₀.heap) (M : Mm s₀ g ok led s) (hd : d ∈ theDefs) (hn : d.name = x)
    (h : ∀ a, wpAny (model prog w) A (eval e env) (fun v s₁ => (∀ b o, s₀.heap.get? b = some o → s₁.heap.get? b = some o) ∧ (FnAt d a s₁.heap → wpAny (model prog w) A (call (.ref a) [v]) Q E s₁)) E s)
    (ht : backTo pos (starEach [e] env) = [(false, eval e env)] := by rfl)
    (hk : env.scope.kind = .function := by rfl) (hl : env.kindOf x = some .globalImplicit := by rfl) (hg : env.globals = mainGlobals := by rfl) (hdb : (x == ("__debug__" : Str)) = false := by rfl) :
    wpAny (model prog w) A (eval (.Call (.Name x xp) [e] [] pos) env) Q E s := by
  subst hn
  obtain ⟨a, ha, F⟩ := B.fn d hd
  obtain ⟨o, pm, cd, doc, ho, hdt, hcd⟩ := id F
  show wpAny _ _ (do callWith pos (← eval (.Name d.name xp) env) [] (backTo pos (starEach [e] env)) (backToKw pos (keywordEach [] env))) _ _ _
  refine wpAny_bind (ldF B M ha ?_ hk hl hg hdb)
  rw [ht]
  refine Calls.callWith_function (o := o) (fd := docDef d.name d.params d.body d.scope pm cd doc) (Calls.evalArgs_plain (Calls.spliced_cons (wpAny_mono (h a) (fun v s₁ h₁ => Calls.spliced_nil ?_) fun _ _ e => e)))
  exact ⟨⟨h₁.1 _ _ ho, hdt⟩, h₁.2 (F.keeps h₁.1)⟩
theorem callF2 {d : DefRec} {x : Str} {xp pos : Pos} {e e' : Expr} {Q : Value → Shared → Prop} (B : Base mg mb s₀.heap) (M : Mm s₀ g ok led s) (hd : d ∈ theDefs) (hn : d.name = x)
    (h : ∀ a, wpAny (model prog w) A (eval e env) (fun v s₁ => wpAny (model prog w) A (eval e' env) (fun v' s₂ => (∀ b o, s₀.heap.get? b = some o → s₂.heap.get? b = some o) ∧ (FnAt d a s₂.heap → wpAny (model prog w) A (call (.ref a) [v, v']) Q E s₂)) E s₁) E s)
    (ht : backTo pos (starEach [e, e'] env) = [(false, eval e env), (false, eval e' env)] := by rfl)
    (hk : env.scope.kind = .function := by rfl) (hl : env.kindOf x = some .globalImplicit := by rfl) (hg : env.globals = mainGlobals := by rfl) (hdb : (x == ("__debug__" : Str)) = false := by rfl) :
    wpAny (model prog w) A (eval (.Call (.Name x xp) [e, e'] [] pos) env) Q E s := by
  subst hn
  obtain ⟨a, ha, F⟩ := B.fn d hd
  obtain ⟨o, pm, cd, doc, ho, hdt, hcd⟩ := id F
  show wpAny _ _ (do callWith pos (← eval (.Name d.name xp) env) [] (backTo pos (starEach [e, e'] env)) (backToKw pos (keywordEach [] env))) _ _ _
  refine wpAny_bind (ldF B M ha ?_ hk hl hg hdb)
  rw [ht]
  refine Calls.callWith_function (o := o) (fd := docDef d.name d.params d.body d.scope pm cd doc) (Calls.evalArgs_plain (Calls.spliced_cons (wpAny_mono (h a) (fun v s₁ h₁ => Calls.spliced_cons (wpAny_mono h₁ (fun v' s₂ h₂ => Calls.spliced_nil ?_) fun _ _ e => e)) fun _ _ e => e)))
  exact ⟨⟨h₂.1 _ _ ho, hdt⟩, h₂.2 (F.keeps h₂.1)⟩
end
end Mine

namespace Mine

def frz (h : Heap) (fp : List Addr) : Led := fp.map fun b => (b, fun o => h.get? b = some o)
theorem frz_adr (h : Heap) (fp : List Addr) : (frz h fp).map (·.1) = fp := by
  unfold frz
  rw [List.map_map]
  exact List.map_id' fp

section
variable {prog : Program} {w : World} {A : Around} {E : Value → Shared → Prop} {s₀ s : Shared} {g : Array GenState} {ok : Bool} {led led' : Led} {env : Env} {mg mb : Str → Option Value}

theorem Mm.freeze (M : Mm s₀ g true led s) {fp : List Addr} (hn : (led.map (·.1) ++ fp).Nodup) (hnew : ∀ b ∈ fp, s₀.heap.get? b = none) (hex : ∀ b ∈ fp, ∃ o, s.heap.get? b = some o) : Mm s₀ g true (led ++ frz s.heap fp) s := by
  refine ⟨M.same, M.keep, fun p hp => ?_, fun _ => ⟨fun p hp => ?_, by rw [List.map_append, frz_adr]; exact hn⟩⟩
  · rcases List.mem_append.mp hp with hp | hp
    · exact M.has p hp
    · obtain ⟨b, hb, rfl⟩ := List.mem_map.mp hp
      obtain ⟨o, ho⟩ := hex b hb
      exact ⟨o, ho, ho⟩
  · rcases List.mem_append.mp hp with hp | hp
    · exact (M.own rfl).1 p hp
    · obtain ⟨b, hb, rfl⟩ := List.mem_map.mp hp
      exact hnew b hb
theorem Mm.frozen {h : Heap} {fp : List Addr} (M : Mm s₀ g true (led ++ frz h fp) s) : ∀ b ∈ fp, ∀ o, h.get? b = some o → s.heap.get? b = some o := fun b hb o e => by
  obtain ⟨o', ho', hP⟩ := M.has (b, fun o => h.get? b = some o) (List.mem_append.mpr (.inr (List.mem_map.mpr ⟨b, hb, rfl⟩)))
  have hP' : h.get? b = some o' := hP
  rw [e] at hP'
  cases hP'
  exact ho'

/-- what a walk's step leaves -/
theorem Mm.walked {fp wr : List Addr} (M : Mm s₀ g true led s) (hsub : ∀ b ∈ wr, b ∈ fp) (hn : (led.map (·.1) ++ fp).Nodup) (hnew : ∀ b ∈ fp, s₀.heap.get? b = none) {h' : Heap} {tk : Nat}
    (hk : ∀ b o, b ∉ wr → s.heap.get? b = some o → h'.get? b = some o) : Mm s₀ g true led { s with heap := h', toks := tk } := by
  obtain ⟨⟨h, t, rfl⟩, keep, has, own⟩ := M
  refine ⟨⟨_, _, rfl⟩, fun b o e => hk b o (fun hb => ?_) (keep b o e), fun p hp => ?_, own⟩
  · rw [hnew b (hsub b hb)] at e; cases e
  · obtain ⟨o, ho, hP⟩ := has p hp
    refine ⟨o, hk _ _ (fun hb => ?_) ho, hP⟩
    exact (List.nodup_append.mp hn).2.2 _ (List.mem_map_of_mem (f := (·.1)) hp) _ (hsub _ hb) rfl

/-- an iterator's walk within a call: its footprint is the call's own (fpn) or stands in the base -/
structure Wk (s₀ : Shared) (led : Led) (h : Heap) (fp fpn wr : List Addr) (St : Nat → Heap → Prop) : Prop where
  st : St 0 h
  ex : ∀ i h, St i h → ∀ b ∈ fpn, ∃ o, h.get? b = some o
  fp : ∀ b ∈ fp, b ∈ fpn ∨ ∃ o, s₀.heap.get? b = some o
  wr : ∀ b ∈ wr, b ∈ fpn
  nd : (led.map (·.1) ++ fpn).Nodup
  new : ∀ b ∈ fpn, s₀.heap.get? b = none
theorem Mm.framed {h : Heap} {fp fpn : List Addr} (M₁ : ∀ b o, s₀.heap.get? b = some o → h.get? b = some o) (M : Mm s₀ g true (led ++ frz h fpn) s) (hfp : ∀ b ∈ fp, b ∈ fpn ∨ ∃ o, s₀.heap.get? b = some o) :
    ∀ b ∈ fp, ∀ o, h.get? b = some o → s.heap.get? b = some o := fun b hb o e => by
  rcases hfp b hb with hb | ⟨o', ho'⟩
  · exact M.frozen b hb o e
  · have := M₁ b o' ho'
    rw [e] at this
    cases this
    exact M.keep b _ ho'

theorem forW {R : Result → Shared → Prop} {x : Str} {px : Pos} {body : List Stmt} {I : Addr} {fp fpn wr : List Addr} {n : Nat} {P : Nat → Value → Prop} {St : Nat → Heap → Prop}
    (W : Walks prog w A I fp wr n P St) (K : Wk s₀ led s.heap fp fpn wr St) (M : Mm s₀ g true led s)
    (J : Nat → Led → Prop) (hJ : J 0 led)
    (turn : ∀ i v led fz s₁ E', i < n → P i v → J i led → Mm s₀ g true (led ++ fz) s₁ →
      wpAny (model prog w) A (storeName env x v) (fun _ s₂ => wpAny (model prog w) A (execs body env) (fun f s₃ => match f with
        | .next | .cont => ∃ led', J (i + 1) led' ∧ Mm s₀ g true (led' ++ fz) s₃
        | .brk => R (.ok .next) s₃
        | .ret v => R (.ok (.ret v)) s₃) E' s₂) E' s₁)
    (done : ∀ led s', J n led → Mm s₀ g true led s' → R (.ok .next) s') :
    codeAny (model prog w) A (.forLoop (.Name x px) (.ref I) body [] env) R s := by
  refine codeAny_forLoop (fun k s' => ∃ i led, Mm s₀ g true led s' ∧ (led.map (·.1) ++ fpn).Nodup ∧ St i s'.heap ∧ J i led ∧ i ≤ n ∧ k = n - i) ?_ (n - 0) ⟨0, led, M, K.nd, K.st, hJ, Nat.zero_le _, rfl⟩
  rintro k s' ⟨i, led, M, hn, hst, hJ, hi, rfl⟩
  by_cases hlt : i < n
  · refine W.item i _ _ _ hlt hst fun v h₁ tk₁ hPv hst₁ hk₁ => ?_
    have M₁ := M.walked (tk := tk₁) K.wr hn K.new hk₁
    have M₂ := M₁.freeze hn K.new (K.ex _ _ hst₁)
    refine wpAny_assign_Name (wpAny_mono (turn i v led _ _ _ hlt hPv hJ M₂) (fun _ s₂ h₂ => wpAny_mono h₂ (fun f s₃ h₃ => ?_) fun _ _ e => e) fun _ _ e => e)
    have fin : (∃ led', J (i + 1) led' ∧ Mm s₀ g true (led' ++ frz h₁ fpn) s₃) → ∃ m, m < n - i ∧ ∃ i led, Mm s₀ g true led s₃ ∧ (led.map (·.1) ++ fpn).Nodup ∧ St i s₃.heap ∧ J i led ∧ i ≤ n ∧ m = n - i := by
      rintro ⟨led', hJ', M'⟩
      have hn' := (M'.own rfl).2
      rw [List.map_append, frz_adr] at hn'
      exact ⟨n - (i + 1), by omega, i + 1, led', M'.sub (List.sublist_append_left ..), hn', W.frame _ _ _ hst₁ (Mm.framed M₁.keep M' K.fp), hJ', hlt, rfl⟩
    cases f with
    | next => exact fin h₃
    | cont => exact fin h₃
    | brk => exact h₃
    | ret v => exact h₃
  · have : i = n := by omega
    subst this
    refine W.done _ _ _ hst fun h₁ tk₁ hk₁ => wpAny_execs_nil ?_
    exact done led _ hJ (M.walked K.wr hn K.new hk₁)

theorem compW {R : Result → Shared → Prop} {elt iter : Expr} {x : Str} {px : Pos} {ifs : List Expr} {scope : Scope} {pos : Pos} {D : Addr} {I : Addr} {fp fpn wr : List Addr} {n : Nat} {P : Nat → Value → Prop} {St : Nat → Heap → Prop}
    (W : Walks prog w A I fp wr n P St) (K : Wk s₀ led s.heap fp fpn wr St) (M : Mm s₀ g true led s)
    (J : Nat → Led → Prop) (hJ : J 0 led)
    (turn : ∀ i v led fz s₁ E', i < n → P i v → J i led → Mm s₀ g true (led ++ fz) s₁ →
      wpAny (model prog w) A (storeName env x v) (fun _ s₂ => wpAny (model prog w) A (forIn ifs true fun c r => if r = true then do let ok ← isTrue c env (eval c env); pure (ForInStep.yield ok) else pure (ForInStep.yield r)) (fun ok s₃ =>
        if ok = true then wpAny (model prog w) A (eval elt env) (fun y s₄ => wpAny (model prog w) A (call (.builtin "list.append") [.ref D, y]) (fun _ s₅ => ∃ led', J (i + 1) led' ∧ Mm s₀ g true (led' ++ fz) s₅) E' s₄) E' s₃
        else ∃ led', J (i + 1) led' ∧ Mm s₀ g true (led' ++ fz) s₃) E' s₂) E' s₁)
    (done : ∀ led s', J n led → Mm s₀ g true led s' → R (.ok .next) s') :
    codeAny (model prog w) A (.compLoop (.ListComp elt [⟨.Name x px, iter, ifs, 0⟩] scope pos) 0 (.ref I) (.ref D) env) R s := by
  refine codeAny_compLoop_tests (fun k s' => ∃ i led, Mm s₀ g true led s' ∧ (led.map (·.1) ++ fpn).Nodup ∧ St i s'.heap ∧ J i led ∧ i ≤ n ∧ k = n - i) ?_ (n - 0) ⟨0, led, M, K.nd, K.st, hJ, Nat.zero_le _, rfl⟩
  rintro k s' ⟨i, led, M, hn, hst, hJ, hi, rfl⟩
  by_cases hlt : i < n
  · refine W.item i _ _ _ hlt hst fun v h₁ tk₁ hPv hst₁ hk₁ => ?_
    have M₁ := M.walked (tk := tk₁) K.wr hn K.new hk₁
    have M₂ := M₁.freeze hn K.new (K.ex _ _ hst₁)
    have fin : ∀ s₃, (∃ led', J (i + 1) led' ∧ Mm s₀ g true (led' ++ frz h₁ fpn) s₃) → ∃ m, m < n - i ∧ ∃ i led, Mm s₀ g true led s₃ ∧ (led.map (·.1) ++ fpn).Nodup ∧ St i s₃.heap ∧ J i led ∧ i ≤ n ∧ m = n - i := by
      rintro s₃ ⟨led', hJ', M'⟩
      have hn' := (M'.own rfl).2
      rw [List.map_append, frz_adr] at hn'
      exact ⟨n - (i + 1), by omega, i + 1, led', M'.sub (List.sublist_append_left ..), hn', W.frame _ _ _ hst₁ (Mm.framed M₁.keep M' K.fp), hJ', hlt, rfl⟩
    refine wpAny_assign_Name (wpAny_mono (turn i v led _ _ _ hlt hPv hJ M₂) (fun _ s₂ h₂ => wpAny_mono h₂ (fun ok s₃ h₃ => ?_) fun _ _ e => e) fun _ _ e => e)
    cases ok with
    | false =>
      rw [if_neg Bool.false_ne_true] at h₃ ⊢
      exact fin _ h₃
    | true =>
      rw [if_pos rfl] at h₃ ⊢
      exact wpAny_mono h₃ (fun y s₄ h₄ => wpAny_mono h₄ (fun _ s₅ h₅ => fin _ h₅) fun _ _ e => e) fun _ _ e => e
  · have : i = n := by omega
    subst this
    exact W.done _ _ _ hst fun h₁ tk₁ hk₁ => done led _ hJ (M.walked K.wr hn K.new hk₁)

theorem Mm.new_ne (M : Mm s₀ g ok led s) (hs : s.heap.get? s.heap.objs.size = none) : s.heap.objs.size ∉ led.map (·.1) := fun hm => by
  obtain ⟨p, hp, hpa⟩ := List.mem_map.mp hm
  obtain ⟨o, ho, _⟩ := M.has p hp
  rw [hpa, hs] at ho
  cases ho
theorem Mm.nodup_new (M : Mm s₀ g true led s) : (led.map (·.1) ++ [s.heap.objs.size]).Nodup := by
  refine List.nodup_append.mpr ⟨(M.own rfl).2, by simp, fun a ha b hb e => ?_⟩
  rw [List.mem_singleton] at hb
  subst hb
  subst e
  exact M.new_ne (fresh_none _) ha

/-- for x in text -/
theorem forStr {x : Str} {px pos : Pos} {iter : Expr} {body : List Stmt} {Q : Flow → Shared → Prop} (hh : A.handled = none)
    (h : wpAny (model prog w) A (eval iter env) (fun xv s₁ => ∃ (txt : Str) (t : Tok) (led : Led), xv = .str txt t ∧ Mm s₀ g true led s₁ ∧ ∃ J : Nat → Led → Prop, J 0 led ∧
      (∀ i c led fz s₁ E' u, txt.cps[i]? = some c → J i led → Mm s₀ g true (led ++ fz) s₁ →
        wpAny (model prog w) A (storeName env x (.str ⟨#[c]⟩ u)) (fun _ s₂ => wpAny (model prog w) A (execs body env) (fun f s₃ => match f with
          | .next | .cont => ∃ led', J (i + 1) led' ∧ Mm s₀ g true (led' ++ fz) s₃
          | .brk => Q .next s₃
          | .ret v => Q (.ret v) s₃) E' s₂) E' s₁) ∧
      (∀ led s', J txt.cps.size led → Mm s₀ g true led s' → Q .next s')) E s)
    (hs : ∀ x, foldedSetIterable iter env x = pure x := by intro _; rfl) :
    wpAny (model prog w) A (exec (.For (.Name x px) iter body [] pos) env) Q E s := by
  refine wpAny_For (wpAny_mono h (fun xv s₁ h₁ => ?_) fun _ _ e => e) hs
  obtain ⟨txt, t, led, rfl, M, J, hJ, turn, done⟩ := h₁
  have Me : ∀ o : Obj, Mm s₀ g true led { s₁ with heap := s₁.heap.push o } := fun o => M.kept (tk := s₁.toks) fun _ _ e => Heap.get?_push_of_some _ e
  have go : ∀ (o : Obj) (St : Nat → Heap → Prop), (Walks prog w A s₁.heap.objs.size [s₁.heap.objs.size] [s₁.heap.objs.size] txt.cps.size (SignAt txt) St) → St 0 (s₁.heap.push o) → (∀ i h, St i h → ∃ o, h.get? s₁.heap.objs.size = some o) →
      codeAny (model prog w) A (.forLoop (.Name x px) (.ref s₁.heap.objs.size) body [] env) (fun r s' => match r with | .ok f => Q f s' | .error e => cameBackBy (model prog w) A env E e s') { s₁ with heap := s₁.heap.push o } := by
    intro o St W hst hex
    refine forW (fpn := [s₁.heap.objs.size]) W ⟨hst, fun i h st b hb => by rw [List.mem_singleton.mp hb]; exact hex i h st, fun b hb => .inl hb, fun b hb => hb, M.nodup_new, fun b hb => by rw [List.mem_singleton.mp hb]; exact M.old_none (fresh_none _)⟩ (Me o) J hJ (fun i v led fz s₂ E' hi hv hJ' M' => ?_) done
    obtain ⟨c, u, hc, rfl⟩ := hv
    exact turn i c led fz s₂ E' u hc hJ' M'
  cases ha : txt.cps.all (· < 128)
  · exact wpAny_pyIter_wide ha (go _ _ (Walks.strWide hh _ txt t) ⟨_, Heap.get?_push_size _ rfl, rfl, rfl⟩ fun i h st => ⟨_, st.choose_spec.1⟩)
  · exact wpAny_pyIter_ascii ha (go _ _ (Walks.strAscii hh _ txt t) ⟨_, Heap.get?_push_size _ rfl, rfl, rfl⟩ fun i h st => ⟨_, st.choose_spec.1⟩)
end
end Mine

namespace Mine
def tupS (its : Array Value) : Slot := fun o => o.cls = .type "tuple" ∧ ∃ n, o.data = .seq its n
def rngS (a b c : Int) : Slot := fun o => ∃ t u v, o = { cls := .type "range", data := .fields #[.int a t, .int b u, .int c v] }

section
variable {prog : Program} {w : World} {A : Around} {E : Value → Shared → Prop} {s₀ s : Shared} {g : Array GenState} {ok : Bool} {led led' : Led} {env : Env} {mg mb : Str → Option Value}

theorem tup_of {its : Array Value} (M : Mm s₀ g ok led s) {l : Addr} (hm : (l, tupS its) ∈ led) : IsTup s.heap l its :=
  let ⟨o, ho, hc, n, hs⟩ := M.row hm; ⟨o, ho, hc, n, hs⟩

theorem Mm.alloc (M : Mm s₀ g ok led s) {o : Obj} {P : Slot} {tk : Nat} (hP : P o) (hf : o.isFreed = false) : Mm s₀ g ok ((s.heap.objs.size, P) :: led) { s with heap := s.heap.push o, toks := tk } :=
  M.add (fresh_none _) (fun _ _ e => Heap.get?_push_of_some _ e) (Heap.get?_push_size _ hf) hP
theorem newTup {vs : List Value} {Q : Value → Shared → Prop} (M : Mm s₀ g ok led s) (h : ∀ a s', Mm s₀ g ok ((a, tupS vs.toArray) :: led) s' → Q (.ref a) s') (hsz : vs.length ≤ sizeLine := by size_fits) : wpAny (model prog w) A (newTuple vs) Q E s :=
  wpAny_newObj_type (h _ _ (M.alloc (tk := s.toks) ⟨rfl, 0, rfl⟩ rfl)) (by show vs.toArray.size ≤ sizeLine; rw [List.size_toArray]; exact hsz)
theorem newLst {vs : List Value} {Q : Value → Shared → Prop} (M : Mm s₀ g ok led s) (h : ∀ a s', Mm s₀ g ok ((a, listS vs.toArray) :: led) s' → Q (.ref a) s') (hsz : vs.length ≤ sizeLine := by size_fits) : wpAny (model prog w) A (newList vs) Q E s :=
  wpAny_newObj_type (h _ _ (M.alloc (tk := s.toks) ⟨rfl, rfl, 0, rfl⟩ rfl)) (by show vs.toArray.size ≤ sizeLine; rw [List.size_toArray]; exact hsz)
theorem Tup2 {e e' : Expr} {k : Nat} {pos : Pos} {Q : Value → Shared → Prop}
    (h : wpAny (model prog w) A (eval e env) (fun v s₁ => wpAny (model prog w) A (eval e' env) (fun v' s₂ => wpAny (model prog w) A (newTuple [v, v']) Q E s₂) E s₁) E s)
    (ht : backTo pos (starEach [e, e'] env) = [(false, eval e env), (false, eval e' env)] := by rfl) : wpAny (model prog w) A (eval (.Tuple [e, e'] k pos) env) Q E s := by
  refine Tuple_ ?_
  rw [ht]
  exact Calls.spliced_cons (wpAny_mono h (fun v s₁ h₁ => Calls.spliced_cons (wpAny_mono h₁ (fun v' s₂ h₂ => Calls.spliced_nil h₂) fun _ _ e => e)) fun _ _ e => e)
theorem Lst0 {pos : Pos} {Q : Value → Shared → Prop} (h : wpAny (model prog w) A (newList []) Q E s) : wpAny (model prog w) A (eval (.List [] pos) env) Q E s :=
  List_ (Calls.spliced_nil h)
theorem Lst1 {e : Expr} {pos : Pos} {Q : Value → Shared → Prop} (h : wpAny (model prog w) A (eval e env) (fun v s₁ => wpAny (model prog w) A (newList [v]) Q E s₁) E s)
    (ht : backTo pos (starEach [e] env) = [(false, eval e env)] := by rfl) : wpAny (model prog w) A (eval (.List [e] pos) env) Q E s := by
  refine List_ ?_
  rw [ht]
  exact Calls.spliced_cons (wpAny_mono h (fun v s₁ h₁ => Calls.spliced_nil h₁) fun _ _ e => e)

theorem appendM {D : Addr} {its : Array Value} {y : Value} {Q : Value → Shared → Prop} (M : Mm s₀ g true led s) (hp : Put D (listS its) (listS (its.push y)) led led') (hsz : its.size ≤ sizeLine)
    (h : ∀ s', Mm s₀ g true led' s' → Q .none s') : wpAny (model prog w) A (call (.builtin "list.append") [.ref D, y]) Q E s :=
  list_append_plainL (list_of M hp.mem) (fun h' hl hs => by
    obtain ⟨o, n, ho, hc, hd, hdt⟩ := hl
    exact h _ (M.put (tk := s.toks) hp (fun b o hb e => (hs.2 b hb).trans e) ho ⟨hc, hd, n, hdt⟩)) hsz

/-- items -/
theorem itS {value slice : Expr} {x : Str} {t u : Tok} {i : Nat} {c : Nat} {Q : Value → Shared → Prop} (M : Mm s₀ g ok led s) (hc : x.cps[i]? = some c) (hsz : x.length ≤ sizeLine) (h : ∀ t s', Mm s₀ g ok led s' → Q (.str ⟨#[c]⟩ t) s')
    (hs : subscripted slice false (.str x t) (.int i u) = operate [.str x t, .int i u] (getItem (.str x t) (.int i u)) := by with_unfolding_all rfl) (ht : ∀ r, letTemporaryGo value (.str x t) r = pure () := by intro _; with_unfolding_all rfl) :
    wpAny (model prog w) A (subscriptTail value slice (.str x t) (.int i u)) Q E s := by
  have hlt : i < x.cps.size := (Array.getElem?_eq_some_iff.mp hc).1
  have hlt' : i < x.length := hlt
  rw [sizeLine_eq] at hsz
  refine subscriptTail_builtin (typeIs_str s x t) PySem.F.slot_str_getitem.lookup (P.getItem_str ?_ ?_ (h _ _ M.tok)) hs ht
  · have h1 : ¬ ((i : Int) < -(2 ^ 63)) := by omega
    have h2 : ¬ ((i : Int) ≥ 2 ^ 63) := by omega
    simp only [h1, h2, decide_false, Bool.or_self]
  · rw [seqIndex_of (k := (i : Int)) (by omega) (by omega)]
    simpa using hc
theorem itL {value slice : Expr} {l : Addr} {its : Array Value} {u : Tok} {i : Nat} {v : Value} {Q : Value → Shared → Prop} (M : Mm s₀ g ok led s) (hm : (l, listS its) ∈ led) (hv : its[i]? = some v) (hsz : its.size ≤ sizeLine) (h : Q v s)
    (hs : subscripted slice false (.ref l) (.int i u) = operate [.ref l, .int i u] (getItem (.ref l) (.int i u)) := by with_unfolding_all rfl) (ht : ∀ r, letTemporaryGo value (.ref l) r = pure () := by intro _; with_unfolding_all rfl) :
    wpAny (model prog w) A (subscriptTail value slice (.ref l) (.int i u)) Q E s := by
  have hlt : i < its.size := (Array.getElem?_eq_some_iff.mp hv).1
  rw [sizeLine_eq] at hsz
  exact subscriptTail_builtin (list_of M hm).isList.typeIs list_getitem_lookup (wpAny_getItem_list (list_of M hm).isList (by omega) (by omega) (by simpa using hv) h) hs ht

/-- slices -/
theorem sliceE {lo hi : Option Expr} {sp : Pos} {Q : Value → Shared → Prop}
    (h : wpAny (model prog w) A (valueOrNone (evalOpt lo env)) (fun l s₁ => wpAny (model prog w) A (valueOrNone (evalOpt hi env)) (fun u s₂ => wpAny (model prog w) A (newFields "slice" [l, u, .none]) Q E s₂) E s₁) E s) :
    wpAny (model prog w) A (eval (.Slice lo hi none sp) env) Q E s := by
  show wpAny _ _ (do
    let l ← valueOrNone (evalOpt lo env)
    let u ← holding [l] (valueOrNone (evalOpt hi env))
    let s ← holding [l, u] (valueOrNone (evalOpt none env))
    newFields "slice" [l, u, s]) _ _ _
  exact wpAny_bind (wpAny_mono h (fun l s₁ h₁ => wpAny_bind (wpAny_holding (wpAny_mono h₁ (fun u s₂ h₂ => wpAny_bind (wpAny_holding (wpAny_pure h₂))) fun _ _ e => e))) fun _ _ e => e)
theorem slcL {value slice : Expr} {l : Addr} {its : Array Value} {vl vu : Value} {lo hi : Option Int} {Q : Value → Shared → Prop} (M : Mm s₀ g ok led s) (hm : (l, listS its) ∈ led) (pl : IsPart vl lo) (pu : IsPart vu hi)
    (h : ∀ a s', Mm s₀ g ok ((a, listS (slicePick its lo hi none)) :: led) s' → Q (.ref a) s')
    (hs : ∀ a, subscripted slice false (.ref l) (.ref a) = operate [.ref a, .ref l] (getItem (.ref l) (.ref a)) := by intro _; with_unfolding_all rfl)
    (ht : ∀ r, letTemporaryGo value (.ref l) r = pure () := by intro _; with_unfolding_all rfl) (hsz : its.size ≤ sizeLine) :
    wpAny (model prog w) A (newFields "slice" [vl, vu, .none]) (fun i s₁ => wpAny (model prog w) A (subscriptTail value slice (.ref l) i) Q E s₁) E s := by
  refine wpAny_newObj_type ?_ (by size_fits)
  have M₁ := M.alloc (tk := s.toks) (o := { cls := .type "slice", data := .fields #[vl, vu, .none] }) (P := fun _ => True) trivial rfl
  have M₂ := M₁.tail
  have hl := (list_of M hm).isList
  refine subscriptTail_ops (Heap.IsList.typeIs (s := { s with heap := s.heap.push { cls := .type "slice", data := .fields #[vl, vu, .none] } }) (hl.push _)) list_getitem_lookup
    (wpAny_getItem_list_slice (hl.push _) (Heap.IsSliceOf.new ..) pl pu .none (by simp) ?_ hsz) (hs _) ht
  exact h _ _ (M₂.alloc (tk := s.toks) ⟨rfl, rfl, 0, rfl⟩ rfl)
theorem slcS {value slice : Expr} {x : Str} {t : Tok} {i : Int} {ui : Tok} {vu : Value} {hi : Option Int} {Q : Value → Shared → Prop} (M : Mm s₀ g ok led s) (pu : IsPart vu hi) (hsz : x.length ≤ sizeLine)
    (h : ∀ t s', Mm s₀ g ok led s' → Q (.str (Txt.slice x (some i) hi) t) s')
    (hs : ∀ a, subscripted slice false (.str x t) (.ref a) = operate [.ref a, .str x t] (getItem (.str x t) (.ref a)) := by intro _; with_unfolding_all rfl)
    (ht : ∀ r, letTemporaryGo value (.str x t) r = pure () := by intro _; with_unfolding_all rfl) :
    wpAny (model prog w) A (newFields "slice" [.int i ui, vu, .none]) (fun i s₁ => wpAny (model prog w) A (subscriptTail value slice (.str x t) i) Q E s₁) E s := by
  refine wpAny_newObj_type ?_ (by size_fits)
  have kp : KeptH (fun h' => ∀ b o, s.heap.get? b = some o → h'.get? b = some o) := fun hh ob hk b o e => Heap.get?_push_of_some _ (hk b o e)
  cases pu with
  | none => exact tail_of_ItemOn (SBH.sliceItem_sn kp (fun _ _ e => e) (fun h' t' k hk => h t' _ (M.kept hk)) hsz) (hs _) ht
  | int j uj => exact tail_of_ItemOn (SBH.sliceItem_ss kp (fun _ _ e => e) (fun h' t' k hk => h t' _ (M.kept hk)) hsz) (hs _) ht
end
end Mine

namespace Mine
local macro_rules | `(tactic| ktr_rel) => `(tactic| first | exact Put.head | exact Put.tail (by ktr_rel))
theorem look_self (x : Str) (v : Value) (l : List (Str × Value)) : look (put x v l) x = some v := by rw [look_put, if_pos rfl]

theorem sgn_eq {c k : Nat} {x : Str} (hx : x = ⟨#[k]⟩) : ((⟨#[c]⟩ : Str) == x) = decide (c = k) := by
  subst hx
  by_cases h : c = k
  · subst h; simp
  · have : ((⟨#[c]⟩ : Str) == ⟨#[k]⟩) = false := by
      rw [beq_eq_false_iff_ne]
      intro e
      injection e with e
      simp at e
      exact h e
    rw [this, decide_eq_false h]
def stepRun (r c : Nat) : Nat := if c = 92 then r + 1 else 0
def rns (l : List Nat) (i : Nat) : Nat := (l.take i).foldl stepRun 0
def Ints (its : Array Value) (n : Nat) (f : Nat → Int) : Prop := its.size = n ∧ ∀ j, j < n → ∃ t, its[j]? = some (.int (f j) t)
theorem Ints.push {its : Array Value} {n : Nat} {f : Nat → Int} {t : Tok} {k : Int} (h : Ints its n f) (hk : k = f n) : Ints (its.push (.int k t)) (n + 1) f := by
  refine ⟨by rw [Array.size_push, h.1], fun j hj => ?_⟩
  rw [Array.getElem?_push, h.1]
  by_cases e : j = n
  · subst e; exact ⟨t, by rw [if_pos rfl, hk]⟩
  · rw [if_neg e]; exact h.2 j (by omega)
theorem Ints.one {k : Int} {t : Tok} {f : Nat → Int} (hk : k = f 0) : Ints #[.int k t] 1 f := ⟨rfl, fun j hj => ⟨t, by obtain rfl : j = 0 := (by omega); rw [← hk]; rfl⟩⟩
theorem rns_succ {l : List Nat} {i c : Nat} (h : l[i]? = some c) : rns l (i + 1) = stepRun (rns l i) c := by
  unfold rns
  rw [List.take_add_one, h, List.foldl_append]; rfl

section
variable {prog : Program} {w : World} {A : Around} {E : Value → Shared → Prop} {s : Shared} {mg mb : Str → Option Value}
set_option maxHeartbeats 4000000
theorem ahead_spec {a : Addr} {txt : Str} {t : Tok} {Q : Value → Shared → Prop} (B : Base mg mb s.heap) (hA : AOk 1 A) (F : FnAt dAhead a s.heap) (hsz : txt.cps.size ≤ 100)
    (h : ∀ D its s', Ints its txt.cps.size (fun j => rns txt.cps.toList j) → Mm s s.gens true [(D, listS its)] s' → Q (.ref D) s') : wpAny (model prog w) A (call (.ref a) [.str txt t]) Q E s := by
  refine F.call B.nl (by have := hA.hd; omega) (binds := [("text", .str txt t)]) (fun _ _ _ => rfl) (by decide) (by simp; rfl) (fun L cd s₁ M => ?_)
  refine wpAny_execs_cons (wpAny_Assign_Name (Lst1 (cInt M fun t₀ _ M => newLst M fun D _ M => stL M (by ktr_rel) fun _ M => ?_)))
  have hI0 : Ints #[.int 0 t₀] 1 (fun j => rns txt.cps.toList j) := Ints.one rfl
  refine wpAny_execs_cons (forStr hA.hh (ldL M (by k_mem) rfl ⟨txt, t, _, rfl, M, fun i led => i ≤ txt.cps.size ∧ ∃ its rest, Ints its (i + 1) (fun j => rns txt.cps.toList j) ∧ led = [(D, listS its), (L, nsS (look (("text", .str txt t) :: ("runs", .ref D) :: rest)))], ⟨Nat.zero_le _, _, [], hI0, rfl⟩, ?turn, ?done⟩))
  case turn =>
    rintro i c led fz s₁ E' u hc ⟨hi, its, rest, hI, rfl⟩ M
    have hlt : i < txt.cps.size := (Array.getElem?_eq_some_iff.mp hc).1
    have hz : its.size ≤ sizeLine := by rw [hI.1, sizeLine_eq]; omega
    have hcl : txt.cps.toList[i]? = some c := by simpa using hc
    refine stL M (by ktr_rel) fun _ M => ?_
    refine wpAny_execs_cons (wpAny_Expr (wpAny_Call_append rfl rfl rfl rfl (ldL M (by k_mem) rfl ⟨D, its, rfl, list_of M (by k_mem), ?_⟩)))
    refine IfExp_ (wpAny_isTrue_Compare1 (ldL M (by k_mem) (look_self _ _ _) (cStr M fun _ _ M => PyProof.Rows.eq_str (wpAny_truthy_bool ?_))))
    rw [sgn_eq (x := "\\") (k := 92) rfl]
    by_cases hb : c = 92
    · rw [decide_eq_true hb, if_pos rfl]
      refine wpAny_BinOp (Subscript_ (ldL M (by k_mem) rfl (wpAny_BinOp (callB1 B M (by k_mem) (ldL M (by k_mem) rfl (lenL M (by k_mem) hz fun _ _ M => cInt M fun _ _ M => subI M fun _ _ M => ?_))))))
      obtain ⟨t₂, ht₂⟩ := hI.2 i (by omega)
      rw [show ((its.size : Nat) : Int) - 1 = (i : Int) by rw [hI.1]; omega]
      refine itL M (by k_mem) ht₂ hz (cInt M fun _ _ M => addI M fun _ _ M => appendM M (by ktr_rel) hz fun _ M => wpAny_execs_nil ⟨_, ⟨hlt, _, _, hI.push ?_, rfl⟩, M⟩)
      show _ = ((rns txt.cps.toList (i + 1) : Nat) : Int)
      rw [rns_succ hcl, stepRun, if_pos hb]; rfl
    · rw [decide_eq_false hb, if_neg Bool.false_ne_true]
      refine cInt M fun _ _ M => appendM M (by ktr_rel) hz fun _ M => wpAny_execs_nil ⟨_, ⟨hlt, _, _, hI.push ?_, rfl⟩, M⟩
      show _ = ((rns txt.cps.toList (i + 1) : Nat) : Int)
      rw [rns_succ hcl, stepRun, if_neg hb]; rfl
  case done =>
    rintro led s₁ ⟨hi, its, rest, hI, rfl⟩ M
    have hz : its.size ≤ sizeLine := by rw [hI.1, sizeLine_eq]; omega
    have hz' : txt.length ≤ sizeLine := by show txt.cps.size ≤ _; rw [sizeLine_eq]; omega
    refine wpAny_execs_cons (wpAny_Return_some (Subscript_ (ldL M (by k_mem) rfl (sliceE (wpAny_pure (callB1 B M (by k_mem) (ldL M (by k_mem) rfl (lenS M hz' fun _ _ M => ?_))))))))
    refine slcL M (by k_mem) .none (.int _ _) (fun D' _ M => h D' _ _ ?_ M.one) (hsz := hz)
    rw [slicePick_upto its txt.length (by rw [hI.1]; exact Nat.le_succ _)]
    refine ⟨by simp [hI.1, Str.length], fun j hj => ?_⟩
    obtain ⟨t', ht'⟩ := hI.2 j (by omega)
    exact ⟨t', by simpa [hj, Str.length] using ht'⟩
end
end Mine

namespace Mine

section
variable {prog : Program} {w : World} {A : Around} {E : Value → Shared → Prop} {s₀ s : Shared} {g : Array GenState} {ok : Bool} {led led' : Led} {env : Env} {mg mb : Str → Option Value}

/-- an iterator made, ready for its first turn -/
def Itr (prog : Program) (w : World) (A : Around) (s₀ : Shared) (g : Array GenState) (led : Led) (I : Addr) (n : Nat) (P : Nat → Value → Prop) (s : Shared) : Prop :=
  ∃ fp fpn wr St, Walks prog w A I fp wr n P St ∧ Wk s₀ led s.heap fp fpn wr St ∧ Mm s₀ g true led s

theorem Itr.add {I : Addr} {n : Nat} {P : Nat → Value → Prop} (T : Itr prog w A s₀ g led I n P s) {a : Addr} {P' : Slot} (ha : s.heap.get? a = none) {h' : Heap} {tk : Nat} {o : Obj} (hk : ∀ b o, s.heap.get? b = some o → h'.get? b = some o) (ho : h'.get? a = some o) (hP : P' o) :
    Itr prog w A s₀ g ((a, P') :: led) I n P { s with heap := h', toks := tk } := by
  obtain ⟨fp, fpn, wr, St, W, K, M⟩ := T
  refine ⟨fp, fpn, wr, St, W, ⟨W.frame _ _ _ K.st fun b hb o e => hk b o e, K.ex, K.fp, K.wr, ?_, K.new⟩, M.add ha hk ho hP⟩
  rw [List.map_cons, List.cons_append]
  refine List.nodup_cons.mpr ⟨fun hm => ?_, K.nd⟩
  rcases List.mem_append.mp hm with hm | hm
  · obtain ⟨p, hp, hpa⟩ := List.mem_map.mp hm
    obtain ⟨o', ho', _⟩ := M.has p hp
    rw [hpa, ha] at ho'; cases ho'
  · obtain ⟨o', ho'⟩ := K.ex _ _ K.st _ hm
    rw [ha] at ho'; cases ho'

theorem itrRange {r : Addr} {a b c : Int} {n : Nat} {Q : Value → Shared → Prop} (hh : A.handled = none) (M : Mm s₀ g true led s) (hm : (r, rngS a b c) ∈ led) (hsmall : Builtin.Range.small a b c = true) (hn : Builtin.Range.rangeSize a b c = n)
    (h : ∀ I s', Itr prog w A s₀ g led I n (fun i v => ∃ t, v = .int (a + i * c) t) s' → Q (.ref I) s') : wpAny (model prog w) A (pyIter (.ref r)) Q E s := by
  obtain ⟨o, ho, t, u, v, rfl⟩ := M.row hm
  refine wpAny_pyIter_range ho hsmall (h _ _ ⟨_, [s.heap.objs.size], _, _, Walks.range hh _ a c n, ⟨?_, fun i h st b hb => ?_, fun b hb => .inl hb, fun b hb => hb, M.nodup_new, fun b hb => ?_⟩, M.kept (tk := s.toks) fun _ _ e => Heap.get?_push_of_some _ e⟩)
  · have e : IsRangeIter (s.heap.push { cls := .type "range_iterator", data := .fields #[rawInt a, rawInt (Builtin.Range.rangeSize a b c), rawInt c] }) s.heap.objs.size a (Builtin.Range.rangeSize a b c) c := Heap.get?_push_size _ rfl
    rw [hn] at e
    show IsRangeIter (s.heap.push { cls := .type "range_iterator", data := .fields #[rawInt a, rawInt (Builtin.Range.rangeSize a b c), rawInt c] }) s.heap.objs.size (a + ((0 : Nat) : Int) * c) ((n : Int) - ((0 : Nat) : Int)) c
    rw [hn]
    simpa using e
  · rw [List.mem_singleton.mp hb]; exact ⟨_, st⟩
  · rw [List.mem_singleton.mp hb]; exact M.old_none (fresh_none _)

theorem itrList {l : Addr} {its : Array Value} {Q : Value → Shared → Prop} (hh : A.handled = none) (M : Mm s₀ g true led s) (hl : s.heap.IsList l its) (hb : ∃ o, s₀.heap.get? l = some o)
    (h : ∀ I s', Itr prog w A s₀ g led I its.size (fun i v => its[i]? = some v) s' → Q (.ref I) s') : wpAny (model prog w) A (pyIter (.ref l)) Q E s := by
  have hne : l ≠ s.heap.objs.size := fun e => by
    obtain ⟨o, ho⟩ := hb
    have := M.keep _ _ ho
    rw [e, fresh_none] at this; cases this
  refine wpAny_pyIter_list hl (h _ _ ⟨_, [s.heap.objs.size], _, _, Walks.list hh _ l hne its, ⟨⟨⟨_, Heap.get?_push_size _ rfl, rfl, rfl⟩, hl.push _⟩, fun i h st b hb => ?_, fun b hb' => ?_, fun b hb => hb, M.nodup_new, fun b hb => ?_⟩, M.kept (tk := s.toks) fun _ _ e => Heap.get?_push_of_some _ e⟩)
  · rw [List.mem_singleton.mp hb]; exact ⟨_, st.1.choose_spec.1⟩
  · simp only [List.mem_cons, List.not_mem_nil, or_false] at hb'
    rcases hb' with rfl | rfl
    · exact .inl (List.mem_singleton.mpr rfl)
    · exact .inr hb
  · rw [List.mem_singleton.mp hb]; exact M.old_none (fresh_none _)

theorem rng1 {n : Nat} {t : Tok} {Q : Value → Shared → Prop} (M : Mm s₀ g ok led s) (h : ∀ r s', Mm s₀ g ok ((r, rngS 0 n 1) :: led) s' → Q (.ref r) s') : wpAny (model prog w) A (call (.type "range") [.int n t]) Q E s :=
  call_range_1 (h _ _ (M.alloc ⟨_, _, _, rfl⟩ rfl))
theorem rng3 {a b c : Int} {t u v : Tok} {Q : Value → Shared → Prop} (M : Mm s₀ g ok led s) (hc : c ≠ 0) (hp : Builtin.divisionGoesByPylong (b - a) c = false) (h : ∀ r s', Mm s₀ g ok ((r, rngS a b c) :: led) s' → Q (.ref r) s') : wpAny (model prog w) A (call (.type "range") [.int a t, .int b u, .int c v]) Q E s :=
  call_range_3 hc (h _ _ (M.alloc ⟨_, _, _, rfl⟩ rfl)) (.inl hp)

theorem forE {x : Str} {px pos : Pos} {iter : Expr} {body : List Stmt} {Q : Flow → Shared → Prop}
    (h : wpAny (model prog w) A (eval iter env) (fun xv s₁ => wpAny (model prog w) A (pyIter xv) (fun it s₂ => ∃ I n P led, it = .ref I ∧ Itr prog w A s₀ g led I n P s₂ ∧ ∃ J : Nat → Led → Prop, J 0 led ∧
      (∀ i v led fz s₁ E', i < n → P i v → J i led → Mm s₀ g true (led ++ fz) s₁ →
        wpAny (model prog w) A (storeName env x v) (fun _ s₂ => wpAny (model prog w) A (execs body env) (fun f s₃ => match f with
          | .next | .cont => ∃ led', J (i + 1) led' ∧ Mm s₀ g true (led' ++ fz) s₃
          | .brk => Q .next s₃
          | .ret v => Q (.ret v) s₃) E' s₂) E' s₁) ∧
      (∀ led s', J n led → Mm s₀ g true led s' → Q .next s')) E s₁) E s)
    (hs : ∀ x, foldedSetIterable iter env x = pure x := by intro _; rfl) :
    wpAny (model prog w) A (exec (.For (.Name x px) iter body [] pos) env) Q E s := by
  refine wpAny_For (wpAny_mono h (fun xv s₁ h₁ => wpAny_mono h₁ (fun it s₂ h₂ => ?_) fun _ _ e => e) fun _ _ e => e) hs
  obtain ⟨I, n, P, led, rfl, ⟨fp, fpn, wr, St, W, K, M⟩, J, hJ, turn, done⟩ := h₂
  exact forW W K M J hJ turn done

/-- a comprehension's turns over an iterator made; the element's and the tests' walks are the user's -/
theorem compE {elt iter : Expr} {x : Str} {px : Pos} {ifs : List Expr} {scope : Scope} {cl : List (Str × Addr)} {pos : Pos} {s₂ : Shared} {I : Addr} {n : Nat} {P : Nat → Value → Prop} {RR : Value → Addr → Result → Shared → Prop}
    (T : Itr prog w A s₀ g led I n P s₂) (hcell : ∀ y ∈ scope.names, y.2 ≠ .cell) (hkind : scope.kind = .function) (hx : scope.names.lookup x = some .local)
    (J : Nat → Array Value → Led → Prop) (hJ : J 0 #[] led) (hsz : ∀ i its r, J i its r → its.size ≤ sizeLine)
    (turn : ∀ C D i v its rest fz l s₁ E', i < n → P i v → J i its rest → look l x = some v → Mm s₀ g true ((C, nsS (look l)) :: (D, listS its) :: (rest ++ fz)) s₁ →
      wpAny (model prog w) A (forIn ifs true fun c r => if r = true then do let ok ← isTrue c (compEnvC scope cl C env) (eval c (compEnvC scope cl C env)); pure (ForInStep.yield ok) else pure (ForInStep.yield r)) (fun ok s₃ =>
        if ok = true then wpAny (model prog w) A (eval elt (compEnvC scope cl C env)) (fun y s₄ => ∃ rest', J (i + 1) (its.push y) rest' ∧ Mm s₀ g true ((C, nsS (look l)) :: (D, listS its) :: (rest' ++ fz)) s₄) E' s₃
        else ∃ rest', J (i + 1) its rest' ∧ Mm s₀ g true ((C, nsS (look l)) :: (D, listS its) :: (rest' ++ fz)) s₃) E' s₁)
    (done : ∀ C D its rest l s', J n its rest → Mm s₀ g true ((C, nsS (look l)) :: (D, listS its) :: rest) s' → RR (.ref D) C (.ok .next) s') :
    wpAny (model prog w) A (newList []) (fun acc s₃ => wpAny (model prog w) A (newFunctionEnv scope env.globals cl [] env.qual none .none (some env)) (fun cenv s₄ =>
      codeAny (model prog w) A (.compStart (.ListComp elt [⟨.Name x px, iter, ifs, 0⟩] scope pos) 0 (.ref I) acc { cenv with scope := relabel scope env }) (RR acc cenv.locals) s₄) E s₃) E s₂ := by
  refine wpAny_newObj_type (wpAny_newFunctionEnv hcell (by intro y hy; simp at hy) (fun h₁ hns₁ hsb₁ => ?_) hkind)
  dsimp only at hns₁ hsb₁ ⊢
  have T1 := T.add (tk := s₂.toks) (P' := listS #[]) (fresh_none _) (fun b o e => Heap.get?_push_of_some _ e) (Heap.get?_push_size s₂.heap (o := { cls := .type "list", dict := none, data := .seq ([] : List Value).toArray }) rfl) ⟨rfl, rfl, 0, rfl⟩
  generalize hH2 : s₂.heap.push { cls := .type "list", dict := none, data := .seq ([] : List Value).toArray } = H2 at hns₁ hsb₁ T1 ⊢
  obtain ⟨oC, esC, epC, hoC, hdC, hsC, hfC⟩ := hns₁
  have T2 := T1.add (tk := s₂.toks + ([] : List (Str × Value)).length) (P' := nsS (look [])) (fresh_none H2) (h' := h₁) (fun b o e => hsb₁.extBut b o (by rintro rfl; rw [fresh_none] at e; cases e) (Heap.get?_push_of_some _ e)) hoC ⟨esC, epC, hdC, hsC, fun name => by rw [hfC]; rfl⟩
  obtain ⟨fp, fpn, wr, St, W, K, M⟩ := T2
  refine codeAny_compStart_list ?lp (W.self 0 _ _ _ K.st ?lp)
  refine compW (A := A) W K M (fun i led => ∃ its rest l, J i its rest ∧ led = (H2.objs.size, nsS (look l)) :: (s₂.heap.objs.size, listS its) :: rest) ⟨_, _, _, hJ, rfl⟩ ?_ ?_
  · rintro i v _ fz s₁ E' hi hv ⟨its, rest, l, hJ', rfl⟩ M'
    refine stL M' Put.head (fun s' M' => ?_) (by simp [compEnvC, relabel, hkind]) (lookup_relabel_local hx)
    refine wpAny_mono (turn _ _ i v its rest fz _ s' E' hi hv hJ' (look_self _ _ _) M') (fun ok s₃ h₃ => ?_) fun _ _ e => e
    cases ok with
    | false =>
      rw [if_neg Bool.false_ne_true] at h₃ ⊢
      obtain ⟨rest', hJ'', M''⟩ := h₃
      exact ⟨_, ⟨_, _, _, hJ'', rfl⟩, M''⟩
    | true =>
      rw [if_pos rfl] at h₃ ⊢
      refine wpAny_mono h₃ (fun y s₄ h₄ => ?_) fun _ _ e => e
      obtain ⟨rest', hJ'', M''⟩ := h₄
      have hz := hsz _ _ _ hJ''
      rw [Array.size_push] at hz
      exact appendM M'' (.tail .head) (by omega) fun s' M₃ => ⟨_, ⟨_, _, _, hJ'', rfl⟩, M₃⟩
  · rintro _ s' ⟨its, rest, l, hJ', rfl⟩ M'
    exact done _ _ its rest l s' hJ' M'
end
end Mine

namespace Mine
local macro_rules | `(tactic| ktr_rel) => `(tactic| first | exact Put.head | exact Put.tail (by ktr_rel))

section
variable {prog : Program} {w : World} {A : Around} {E : Value → Shared → Prop} {s₀ s : Shared} {g : Array GenState} {ok : Bool} {led led' : Led} {env : Env} {mg mb : Str → Option Value}

theorem fnCallC {d : DefRec} {a : Addr} {Q : Value → Shared → Prop} {vals : List Value} {binds : List (Str × Value)} {cs : Addr → List (Str × Addr)} {lm : List (Str × Value)} (F : FnAt d a s.heap) (nl : s.heap.NoLimit) (hd : A.depth < recursionLimit)
    (hbind : ∀ pm cd doc, bindArgs (docDef d.name d.params d.body d.scope pm cd doc) ⟨vals, []⟩ = pure binds)
    (hcs : ∀ L, cellsFrom (L + 1) d.scope.names [] = cs L) (hcn : ∀ L, ((cs L).map (·.1)).Nodup)
    (hkind : ∀ L, ∀ x ∈ binds, d.scope.names.lookup x.1 = some .local ∨ (d.scope.names.lookup x.1 = some .cell ∧ ((cs L).lookup x.1).isSome = true))
    (hlm : ∀ L cd x, bindL (fenv d L a cd (cs L)).kindOf binds (fun _ => none) x = look lm x)
    (h : ∀ L cd s₁, Mm s s.gens true ((cs L).map (fun x => (x.2, cellS (bindC (fenv d L a cd (cs L)).kindOf binds (fun _ => none) x.1))) ++ [(L, nsS (look lm))]) s₁ →
      wpAny (model prog w) (A.deeper (fenv d L a cd (cs L))) (execs d.body (fenv d L a cd (cs L))) (fun f s' => Q (match f with | .ret v => v | _ => .none) s') (fun _ _ => False) s₁)
    (hco : d.scope.isCoroutine = false := by rfl) (hgen : d.scope.isGenerator = false := by rfl) (hk : d.scope.kind = .function := by rfl) :
    wpAny (model prog w) A (call (.ref a) vals) Q E s := by
  obtain ⟨o, pm, cd, doc, ho, hdata, hcd⟩ := F
  have henv : callEnvC (docDef d.name d.params d.body d.scope pm cd doc) s.heap.objs.size a = fenv d s.heap.objs.size a cd (cs s.heap.objs.size) := by
    show newEnv d.scope s.heap.objs.size mainGlobals (cellsFrom (s.heap.objs.size + 1) d.scope.names []) _ _ cd none builtinsNs = _
    rw [hcs]; unfold newEnv; rfl
  refine wpAny_call (codeAny_call_cells hd ho hdata nl hcd rfl (hbind pm cd doc) rfl (fun x hx => ?_) (fun s₁ x => ?_) hco hgen hk)
  · have := hkind s.heap.objs.size x hx
    rw [← hcs] at this; exact this
  · rw [henv] at x ⊢
    refine wpAny_mono (h s.heap.objs.size cd s₁ ?_) (fun f s' hq => hq) fun _ _ f => f.elim
    obtain ⟨⟨⟨h', tk, rfl⟩, hns, keep, _⟩, hcell, hap, hab⟩ := x
    have hns : h'.Ns s.heap.objs.size _ := hns
    have hcell : ∀ n c, (cs s.heap.objs.size).lookup n = some c → h'.IsCell c _ := hcell
    have hap : (cs s.heap.objs.size).Pairwise fun x y => x.2 ≠ y.2 := hap
    have hab : ∀ n c, (n, c) ∈ cs s.heap.objs.size → s.heap.objs.size < c := hab
    have old : ∀ b, s.heap.objs.size ≤ b → s.heap.get? b = none := fun b hb => by
      cases e : s.heap.get? b with
      | none => rfl
      | some o' => exact absurd (Heap.lt_size e) (Nat.not_lt.mpr hb)
    have lk : ∀ (l : List (Str × Addr)), (l.map (·.1)).Nodup → ∀ p ∈ l, l.lookup p.1 = some p.2 := by
      intro l
      induction l with
      | nil => intro _ p hp; cases hp
      | cons q r ih =>
        intro hn p hp
        rw [List.map_cons, List.nodup_cons] at hn
        obtain ⟨qn, qc⟩ := q
        rcases List.mem_cons.mp hp with rfl | hp2
        · simp [List.lookup_cons]
        · rw [List.lookup_cons]
          have : (p.1 == qn) = false := by
            rw [beq_eq_false_iff_ne]
            rintro rfl
            exact hn.1 (List.mem_map_of_mem (f := (·.1)) hp2)
          rw [this]; exact ih hn.2 p hp2
    have led_adr : ((cs s.heap.objs.size).map (fun x => ((x.2, cellS (bindC (fenv d s.heap.objs.size a cd (cs s.heap.objs.size)).kindOf binds (fun _ => none) x.1)) : Addr × Slot))).map (·.1) = (cs s.heap.objs.size).map (·.2) := by rw [List.map_map]; rfl
    refine ⟨⟨h', tk, rfl⟩, keep, fun p hp => ?_, fun _ => ⟨fun p hp => ?_, ?_⟩⟩
    · rcases List.mem_append.mp hp with hp | hp
      · obtain ⟨q, hq, rfl⟩ := List.mem_map.mp hp
        exact hcell q.1 q.2 (lk _ (hcn _) q hq)
      · rw [List.mem_singleton.mp hp]
        obtain ⟨o, es, ep, ho, hd', hs', hf⟩ := hns
        exact ⟨o, ho, es, ep, hd', hs', fun name => by rw [hf]; exact hlm _ _ _⟩
    · rcases List.mem_append.mp hp with hp | hp
      · obtain ⟨q, hq, rfl⟩ := List.mem_map.mp hp
        exact old _ (Nat.le_of_lt (hab q.1 q.2 hq))
      · rw [List.mem_singleton.mp hp]; exact old _ (Nat.le_refl _)
    · rw [List.map_append, led_adr]
      refine List.nodup_append.mpr ⟨?_, by simp, fun x hx y hy e => ?_⟩
      · rw [List.nodup_iff_pairwise_ne, List.pairwise_map]; exact hap
      · obtain ⟨q, hq, rfl⟩ := List.mem_map.mp hx
        rw [List.map_cons, List.map_nil, List.mem_singleton] at hy
        have := hab q.1 q.2 hq
        subst hy
        have e : q.2 = s.heap.objs.size := e
        rw [e] at this
        exact Nat.lt_irrefl _ this

theorem Mm.drop {C : Addr} {P : Slot} (M : Mm s₀ g true ((C, P) :: led) s) {h' : Heap} (hs : Heap.SameBut C s.heap h') : Mm s₀ g true led { s with heap := h' } := by
  have M1 := M.put (P' := fun _ => True) (tk := s.toks) (h' := s.heap) Put.head (fun _ _ _ e => e) (M.row (.head _)).choose_spec.1 trivial
  obtain ⟨⟨hh, t, rfl⟩, keep, has, own⟩ := M
  refine ⟨⟨_, _, rfl⟩, fun b o e => hs.extBut b o (fun z => ?_) (keep b o e), fun p hp => ?_, fun _ => ⟨fun p hp => (own rfl).1 p (.tail _ hp), (List.nodup_cons.mp (own rfl).2).2⟩⟩
  · subst z; rw [(own rfl).1 _ (.head _)] at e; cases e
  · obtain ⟨o, ho, hP⟩ := has p (.tail _ hp)
    refine ⟨o, hs.extBut _ o (fun z => ?_) ho, hP⟩
    exact (List.nodup_cons.mp (own rfl).2).1 (z ▸ List.mem_map_of_mem (f := (·.1)) hp)

theorem ListCompE {elt iter : Expr} {x : Str} {px : Pos} {ifs : List Expr} {scope : Scope} {cl : List (Str × Addr)} {pos : Pos} {Q : Value → Shared → Prop}
    (hclos : closureFor scope env = pure cl) (hcell : ∀ y ∈ scope.names, y.2 ≠ .cell) (hkind : scope.kind = .function)
    (hnames : ∀ y ∈ scope.names, y.2 = .local → scope.names.lookup y.1 = some .local) (hx : scope.names.lookup x = some .local)
    (h : wpAny (model prog w) A (eval iter env) (fun xv s₁ => wpAny (model prog w) A (pyIter xv) (fun it s₂ => ∃ I n P led, it = .ref I ∧ Itr prog w A s₀ g led I n P s₂ ∧ ∃ J : Nat → Array Value → Led → Prop, J 0 #[] led ∧
      (∀ i its r, J i its r → its.size ≤ sizeLine) ∧
      (∀ C D i v its rest fz l s₁ E', i < n → P i v → J i its rest → look l x = some v → Mm s₀ g true ((C, nsS (look l)) :: (D, listS its) :: (rest ++ fz)) s₁ →
        wpAny (model prog w) A (forIn ifs true fun c r => if r = true then do let ok ← isTrue c (compEnvC scope cl C env) (eval c (compEnvC scope cl C env)); pure (ForInStep.yield ok) else pure (ForInStep.yield r)) (fun ok s₃ =>
          if ok = true then wpAny (model prog w) A (eval elt (compEnvC scope cl C env)) (fun y s₄ => ∃ rest', J (i + 1) (its.push y) rest' ∧ Mm s₀ g true ((C, nsS (look l)) :: (D, listS its) :: (rest' ++ fz)) s₄) E' s₃
          else ∃ rest', J (i + 1) its rest' ∧ Mm s₀ g true ((C, nsS (look l)) :: (D, listS its) :: (rest' ++ fz)) s₃) E' s₁) ∧
      (∀ D its rest s', J n its rest → Mm s₀ g true ((D, listS its) :: rest) s' → Q (.ref D) s')) E s₁) E s)
    (hs : ∀ x, foldedSetIterable iter env x = pure x := by intro _; rfl) :
    wpAny (model prog w) A (eval (.ListComp elt [⟨.Name x px, iter, ifs, 0⟩] scope pos) env) Q E s := by
  rw [eval_ListComp]
  refine wpAny_comprehension_free (use := none) rfl hs hclos hkind hnames (wpAny_mono h (fun xv s₁ h₁ => wpAny_mono h₁ (fun it s₂ h₂ => ?_) fun _ _ e => e) fun _ _ e => e)
  obtain ⟨I, n, P, led, rfl, T, J, hJ, hsz, turn, done⟩ := h₂
  refine compE (RR := fun acc C => compPost (model prog w) A E none Q acc C) T hcell hkind hx J hJ hsz turn ?_
  intro C D its rest l s' hJ' M'
  exact ⟨_, ns_of M' (.head _), fun h'' hs'' => done D its rest _ hJ' (M'.drop hs'')⟩

theorem ListCompA {elt iter : Expr} {x y : Str} {px py : Pos} {ifs : List Expr} {scope : Scope} {cl : List (Str × Addr)} {pos spos : Pos} {Q : Flow → Shared → Prop}
    (hsw : swapsWith (.ListComp elt [⟨.Name x px, iter, ifs, 0⟩] scope pos) (some (.Name y py)) spos.line env = pure true)
    (hclos : closureFor scope env = pure cl) (hcell : ∀ y ∈ scope.names, y.2 ≠ .cell) (hkind : scope.kind = .function)
    (hnames : ∀ y ∈ scope.names, y.2 = .local → scope.names.lookup y.1 = some .local) (hx : scope.names.lookup x = some .local)
    (h : wpAny (model prog w) A (eval iter env) (fun xv s₁ => wpAny (model prog w) A (pyIter xv) (fun it s₂ => ∃ I n P led, it = .ref I ∧ Itr prog w A s₀ g led I n P s₂ ∧ ∃ J : Nat → Array Value → Led → Prop, J 0 #[] led ∧
      (∀ i its r, J i its r → its.size ≤ sizeLine) ∧
      (∀ C D i v its rest fz l s₁ E', i < n → P i v → J i its rest → look l x = some v → Mm s₀ g true ((C, nsS (look l)) :: (D, listS its) :: (rest ++ fz)) s₁ →
        wpAny (model prog w) A (forIn ifs true fun c r => if r = true then do let ok ← isTrue c (compEnvC scope cl C env) (eval c (compEnvC scope cl C env)); pure (ForInStep.yield ok) else pure (ForInStep.yield r)) (fun ok s₃ =>
          if ok = true then wpAny (model prog w) A (eval elt (compEnvC scope cl C env)) (fun y s₄ => ∃ rest', J (i + 1) (its.push y) rest' ∧ Mm s₀ g true ((C, nsS (look l)) :: (D, listS its) :: (rest' ++ fz)) s₄) E' s₃
          else ∃ rest', J (i + 1) its rest' ∧ Mm s₀ g true ((C, nsS (look l)) :: (D, listS its) :: (rest' ++ fz)) s₃) E' s₁) ∧
      (∀ D its rest, J n its rest → ∃ l led', Put env.locals (nsS (look l)) (nsS (look (put y (.ref D) l))) rest led' ∧ ∀ t, Mm s₀ g true ((D, listS its) :: led') t → Q .next t)) E s₁) E s)
    (hs : ∀ x, foldedSetIterable iter env x = pure x := by intro _; rfl) (hk : env.scope.kind = .function := by rfl) (hl : env.kindOf y = some .local := by rfl) :
    wpAny (model prog w) A (exec (.Assign [.Name y py] (.ListComp elt [⟨.Name x px, iter, ifs, 0⟩] scope pos) spos) env) Q E s := by
  rw [exec_Assign_Name_used _ _ _ _ hsw]
  refine wpAny_bind (wpAny_standAt (wpAny_bind ?_))
  show wpAny _ A (do let _ ← comprehension (.ListComp elt [⟨.Name x px, iter, ifs, 0⟩] scope pos) scope env _ (newList []) false (eval iter env) (some (assign (.Name y py) env))) _ _ s
  refine wpAny_bind (wpAny_mono (wpAny_comprehension_free (use := some (assign (.Name y py) env)) (Q := fun _ s' => Q .next s') rfl hs hclos hkind hnames
    (wpAny_mono h (fun xv s₁ h₁ => wpAny_mono h₁ (fun it s₂ h₂ => ?_) fun _ _ e => e) fun _ _ e => e)) (fun _ s' hq => wpAny_pure (wpAny_pure hq)) fun _ _ e => e)
  obtain ⟨I, n, P, led, rfl, T, J, hJ, hsz, turn, done⟩ := h₂
  refine compE (RR := fun acc C => compPost (model prog w) A E (some (assign (.Name y py) env)) (fun _ s' => Q .next s') acc C) T hcell hkind hx J hJ hsz turn ?_
  intro C D its rest l s' hJ' M'
  obtain ⟨l', led', hp, hQ⟩ := done D its rest hJ'
  show wpAny _ A (assign (.Name y py) env (.ref D)) _ _ _
  refine wpAny_assign_Name (stL M' (.tail (.tail hp)) (fun s'' M'' => ?_) hk hl)
  exact ⟨_, ns_of M'' (.head _), fun h'' hs'' => hQ _ (M''.drop hs'')⟩
end

theorem ifs0 {prog : Program} {w : World} {A : Around} {E : Value → Shared → Prop} {s : Shared} {env : Env} {Q : Bool → Shared → Prop} (h : Q true s) :
    wpAny (model prog w) A (forIn ([] : List Expr) true fun c r => if r = true then do let ok ← isTrue c env (eval c env); pure (ForInStep.yield ok) else pure (ForInStep.yield r)) Q E s := by
  rw [List.forIn_nil]; exact wpAny_pure h
theorem ifs1 {prog : Program} {w : World} {A : Around} {E : Value → Shared → Prop} {s : Shared} {env : Env} {c : Expr} {Q : Bool → Shared → Prop} (h : wpAny (model prog w) A (isTrue c env (eval c env)) Q E s) :
    wpAny (model prog w) A (forIn [c] true fun c r => if r = true then do let ok ← isTrue c env (eval c env); pure (ForInStep.yield ok) else pure (ForInStep.yield r)) Q E s := by
  rw [List.forIn_cons]
  refine wpAny_bind ?_
  rw [if_pos rfl]
  refine wpAny_bind (wpAny_mono h (fun ok s₁ h₁ => wpAny_pure ?_) fun _ _ e => e)
  show wpAny _ _ (forIn ([] : List Expr) ok _) _ _ _
  rw [List.forIn_nil]; exact wpAny_pure h₁
end Mine

namespace Mine
local macro_rules | `(tactic| ktr_rel) => `(tactic| first | exact Put.head | exact Put.tail (by ktr_rel))

/-- what _law_free gives: the places whose sign is one of the signs and that an even run stands ahead of -/
def freeP (l sg : List Nat) (k : Nat) : Bool := (match l[k]? with | some c => decide (c ∈ sg) | none => false) && decide (rns l k % 2 = 0)
def freeN (l sg : List Nat) (n : Nat) : List Nat := (List.range n).filter (freeP l sg)
theorem freeN_succ (l sg : List Nat) (n : Nat) : freeN l sg (n + 1) = freeN l sg n ++ if freeP l sg n then [n] else [] := by
  unfold freeN
  rw [List.range_succ, List.filter_append, List.filter_cons, List.filter_nil]
/-- a list of ints whose values are these -/
def IntsOf (its : Array Value) (l : List Nat) : Prop := its.size = l.length ∧ ∀ j k : Nat, l[j]? = some k → ∃ t, its[j]? = some (Value.int k t)
theorem IntsOf.nil : IntsOf #[] [] := ⟨rfl, fun j k h => by simp at h⟩
theorem IntsOf.push {its : Array Value} {l : List Nat} {k : Nat} {t : Tok} (h : IntsOf its l) : IntsOf (its.push (Value.int k t)) (l ++ [k]) := by
  refine ⟨by rw [Array.size_push, h.1, List.length_append, List.length_singleton], fun j k' hj => ?_⟩
  rw [Array.getElem?_push, h.1]
  by_cases e : j = l.length
  · subst e
    rw [if_pos rfl]
    simp at hj
    exact ⟨t, by rw [hj]⟩
  · rw [if_neg e]
    rw [List.getElem?_append] at hj
    split at hj
    · exact h.2 j k' hj
    · rename_i h1
      exfalso
      have : j - l.length ≠ 0 := by omega
      obtain ⟨m, hm⟩ := Nat.exists_eq_succ_of_ne_zero this
      rw [hm] at hj; simp at hj

theorem Mm.transG {s₀ s s' : Shared} {g : Array GenState} {led led' : Led} (M : Mm s₀ g true led s) (N : Mm s s.gens true led' s') : Mm s₀ g true (led' ++ led) s' := by
  have h := M.trans N (fun e => e)
  rw [M.gens] at h
  exact h

theorem small1 {n : Nat} (h : n ≤ 100) : Builtin.Range.small 0 (n : Int) 1 = true := by
  exact small_one (by omega) (by omega) (by omega) (by omega)

section
variable {prog : Program} {w : World} {A : Around} {E : Value → Shared → Prop} {s : Shared} {mg mb : Str → Option Value}
set_option maxHeartbeats 4000000
theorem free_spec {a : Addr} {txt sg : Str} {t u : Tok} {Q : Value → Shared → Prop} (B : Base mg mb s.heap) (hA : AOk 2 A) (F : FnAt dFree a s.heap) (hsz : txt.cps.size ≤ 100)
    (h : ∀ D its s', IntsOf its (freeN txt.cps.toList sg.cps.toList txt.cps.size) → Mm s s.gens true [(D, listS its)] s' → Q (.ref D) s') : wpAny (model prog w) A (call (.ref a) [.str txt t, .str sg u]) Q E s := by
  refine fnCallC F B.nl (by have := hA.hd; omega) (binds := [("text", .str txt t), ("signs", .str sg u)]) (cs := fun L => [("runs", L + 3), ("signs", L + 2), ("text", L + 1)]) (lm := []) (fun _ _ _ => rfl) (fun _ => rfl) (fun _ => (by decide : (["runs", "signs", "text"] : List Str).Nodup)) (by simp; exact ⟨.inr rfl, .inr rfl⟩) (fun _ _ _ => rfl) (fun L cd s₁ M => ?_)
  have hz' : txt.length ≤ sizeLine := by show txt.cps.size ≤ _; rw [sizeLine_eq]; omega
  have M : Mm s s.gens true [(L + 3, cellS none), (L + 2, cellS (some (.str sg u))), (L + 1, cellS (some (.str txt t))), (L, nsS (look []))] s₁ := M
  refine wpAny_execs_cons (wpAny_Assign_Name (callF1 B M (d := dAhead) (by k_mem) rfl (fun aA => ldC M rfl (by k_mem) ⟨M.keep, fun F' => ?_⟩)))
  have hA1 : AOk 1 (A.deeper (fenv dFree L a cd [("runs", L + 3), ("signs", L + 2), ("text", L + 1)])) := hA.deeper
  refine ahead_spec (B.keeps M.keep) hA1 F' hsz (fun D its s₂ hI N => ?_)
  have M := M.transG N
  refine stC M rfl (by ktr_rel) fun s₃ M => ?_
  have hh : (A.deeper (fenv dFree L a cd [("runs", L + 3), ("signs", L + 2), ("text", L + 1)])).handled = none := hA1.hh
  have hzi : its.size ≤ sizeLine := by rw [hI.1, sizeLine_eq]; omega
  refine wpAny_execs_cons (wpAny_Return_some (ListCompE (s₀ := s) (g := s.gens) rfl (by decide) rfl (by decide) rfl (callB1 B M (by k_mem) (callB1 B M (by k_mem) (ldC M rfl (by k_mem) (lenS M hz' fun _ _ M => rng1 M fun r s₄ M => itrRange hh M (.head _) ?_ (n := txt.length) ?_ fun I s₅ T => ?_))))))
  · exact small1 hsz
  · rw [rangeSize_one]; split <;> omega
  refine ⟨I, _, _, _, rfl, T, fun i its' led => i ≤ txt.cps.size ∧ IntsOf its' (freeN txt.cps.toList sg.cps.toList i) ∧ led = [(r, rngS 0 txt.length 1), (D, listS its), (L + 3, cellS (some (.ref D))), (L + 2, cellS (some (.str sg u))), (L + 1, cellS (some (.str txt t))), (L, nsS (look []))], ⟨Nat.zero_le _, IntsOf.nil, rfl⟩, ?_, ?_, ?_⟩
  · rintro i its' _ ⟨hi, h1, -⟩
    rw [h1.1]
    refine Nat.le_trans (List.length_filter_le _ _) ?_
    rw [List.length_range, sizeLine_eq]; omega
  · rintro C D' i v its' _ fz l s₆ E' hi ⟨tk, rfl⟩ ⟨-, h1, rfl⟩ hl M
    rw [show (0 : Int) + (i : Int) * 1 = (i : Int) by omega] at hl
    have hc : txt.cps[i]? = some (txt.cps[i]'hi) := Array.getElem?_eq_getElem hi
    generalize txt.cps[i]'hi = c at hc
    have hcl : txt.cps.toList[i]? = some c := by simpa using hc
    refine ifs1 (isTrue_and (wpAny_isTrue_Compare1 (Subscript_ (ldC M rfl (by k_mem) (ldL M (by k_mem) hl (itS M hc hz' fun _ _ M => ldC M rfl (by k_mem) (PyProof.Rows.in_str (wpAny_truthy_bool ?_))))))))
    rw [StrLaws.found_one]
    have hP : freeP txt.cps.toList sg.cps.toList i = (decide (c ∈ sg.cps.toList) && decide (rns txt.cps.toList i % 2 = 0)) := by unfold freeP; rw [hcl]
    by_cases hb : c ∈ sg.cps.toList
    · rw [decide_eq_true hb, if_pos rfl]
      obtain ⟨tr, htr⟩ := hI.2 i hi
      refine isTrue_and (wpAny_isTrue_Compare1 (wpAny_BinOp (Subscript_ (ldC M rfl (by k_mem) (ldL M (by k_mem) hl (itL M (by k_mem) htr hzi (cInt M fun _ _ M => modI M (by decide) fun _ _ M => cInt M fun _ _ M => P.eq_int (wpAny_truthy_bool ?_))))))))
      by_cases hm : rns txt.cps.toList i % 2 = 0
      · have e : (Int.fmod ((rns txt.cps.toList i : Nat) : Int) 2 == 0) = true := by
          rw [Int.fmod_eq_emod_of_nonneg _ (by decide)]; simp; omega
        rw [e, if_pos rfl]
        refine isTrue_and_nil ?_
        rw [if_pos rfl]
        refine ldL M (by k_mem) hl ⟨_, ⟨hi, ?_, rfl⟩, M⟩
        rw [freeN_succ, hP, decide_eq_true hb, decide_eq_true hm, if_pos (by rfl)]
        exact h1.push
      · have e : (Int.fmod ((rns txt.cps.toList i : Nat) : Int) 2 == 0) = false := by
          rw [Int.fmod_eq_emod_of_nonneg _ (by decide)]; simp; omega
        rw [e, if_neg Bool.false_ne_true, if_neg Bool.false_ne_true]
        refine ⟨_, ⟨hi, ?_, rfl⟩, M⟩
        rw [freeN_succ, hP, decide_eq_true hb, decide_eq_false hm, if_neg (by decide), List.append_nil]
        exact h1
    · rw [decide_eq_false hb, if_neg Bool.false_ne_true, if_neg Bool.false_ne_true]
      refine ⟨_, ⟨hi, ?_, rfl⟩, M⟩
      rw [freeN_succ, hP, decide_eq_false hb, if_neg (by simp), List.append_nil]
      exact h1
  · rintro D' its' _ s' ⟨-, h1, rfl⟩ M
    exact h D' its' s' h1 M.one
end
end Mine

namespace Mine
local macro_rules | `(tactic| ktr_rel) => `(tactic| first | exact Put.head | exact Put.tail (by ktr_rel))

/-! ## a state without some objects -/
def hide1 (h : Heap) (a : Addr) : Heap := h.update a fun o => { o with data := .freed }
theorem hide1_self (h : Heap) (a : Addr) : (hide1 h a).get? a = none := by
  obtain ⟨objs, l⟩ := h
  unfold hide1 Heap.update Heap.get?
  simp only [Array.getElem?_modify, if_true]
  cases objs[a]? <;> rfl
def hide (h : Heap) : List Addr → Heap
  | [] => h
  | a :: r => hide1 (hide h r) a
theorem hide_in (h : Heap) : ∀ (fp : List Addr) (b : Addr), b ∈ fp → (hide h fp).get? b = none
  | [], b, hb => by cases hb
  | a :: r, b, hb => by
    show (hide1 (hide h r) a).get? b = none
    by_cases e : a = b
    · subst e; exact hide1_self _ _
    · refine (Heap.get?_update_other _ _ e).trans (hide_in h r b ?_)
      rcases List.mem_cons.mp hb with rfl | hb
      · exact absurd rfl e
      · exact hb
theorem hide_out (h : Heap) : ∀ (fp : List Addr) (b : Addr), b ∉ fp → (hide h fp).get? b = h.get? b
  | [], b, _ => rfl
  | a :: r, b, hb => by
    show (hide1 (hide h r) a).get? b = _
    refine (Heap.get?_update_other _ _ (fun e : a = b => hb (by rw [e]; exact List.mem_cons_self ..))).trans (hide_out h r b fun hm => hb (List.mem_cons_of_mem _ hm))
theorem hide_sub (h : Heap) (fp : List Addr) {b : Addr} {o : Obj} (e : (hide h fp).get? b = some o) : h.get? b = some o := by
  by_cases hb : b ∈ fp
  · rw [hide_in h fp b hb] at e; cases e
  · rwa [hide_out h fp b hb] at e

/-! ## enumerate over a text -/
def enS (it : Addr) (i : Int) : Slot := fun o => ∃ old, o = { cls := .type "enumerate", dict := none, data := .fields #[.none, .bool false, .ref it, rawInt i, .none, old], slots := #[] }
def siS (x : Str) (t : Tok) (i : Nat) : Slot := fun o => o.cls = .type (strIterType x) ∧ o.data = .fields #[.str x t, .int i 0]

section
variable {prog : Program} {w : World} {A : Around} {E : Value → Shared → Prop} {s₀ s : Shared} {g : Array GenState} {ok : Bool} {led led' : Led} {env : Env} {mg mb : Str → Option Value}

theorem drawS (hh : A.handled = none) (it : Addr) (x : Str) (t : Tok) :
    Draws prog w A it [it] x.cps.size (fun i v => ∃ c u, x.cps[i]? = some c ∧ v = .str ⟨#[c]⟩ u) (fun i h => h.IsStrIter it (strIterType x) x t i) := by
  unfold strIterType
  cases ha : x.cps.all (· < 128)
  · exact Draws.strWide hh it x t
  · exact Draws.strAscii hh it x t

theorem enNew {x : Str} {t : Tok} {Q : Value → Shared → Prop} (M : Mm s₀ g true led s)
    (h : ∀ s', Mm s₀ g true ((s.heap.objs.size, siS x t 0) :: (s.heap.objs.size + 1, enS s.heap.objs.size 0) :: led) s' → Q (.ref (s.heap.objs.size + 1)) s') :
    wpAny (model prog w) A (call (.type "enumerate") [.str x t]) Q E s := by
  refine call_enumerate_str fun h' he hit hz hk => h _ ?_
  have fr : s.heap.get? (s.heap.objs.size + 1) = none := by
    cases e : s.heap.get? (s.heap.objs.size + 1) with
    | none => rfl
    | some o => exact absurd (Heap.lt_size e) (Nat.not_lt.mpr (Nat.le_succ _))
  obtain ⟨oi, hoi, hci, hdi⟩ := hit
  have M1 := M.add (tk := s.toks) (P := enS s.heap.objs.size 0) fr (h' := hide1 h' s.heap.objs.size) (o := { cls := .type "enumerate", data := .fields #[.none, .bool false, .ref s.heap.objs.size, rawInt 0, .none, .none] })
    (fun b o e => (Heap.get?_update_other _ _ (fun z => by have := Heap.lt_size e; rw [← z] at this; exact Nat.lt_irrefl _ this)).trans (hk b o e)) ((Heap.get?_update_other _ _ (Nat.ne_of_lt (Nat.lt_succ_self _))).trans he) ⟨_, rfl⟩
  exact M1.add (tk := s.toks) (h' := h') (hide1_self _ _) (fun b o e => hide_sub h' [s.heap.objs.size] e) hoi ⟨hci, hdi⟩

theorem enNext {e it : Addr} {x : Str} {t : Tok} {i c : Nat} {Q : Option Value → Shared → Prop} (hh : A.handled = none) (hne : e ≠ it) (hx : x.cps[i]? = some c) (M : Mm s₀ g true ((it, siS x t i) :: (e, enS it i) :: led) s)
    (h : ∀ T u u' s' it' v, IsEnumOut s'.heap e it' ((i : Int) + 1) v T → (∀ h', (∃ old, IsEnum h' e it ((i : Int) + 1) old) → Heap.SameBut e s'.heap h' → Mm s₀ g true ((T, tupS #[.int i u, .str ⟨#[c]⟩ u']) :: (it, siS x t (i + 1)) :: (e, enS it ((i + 1 : Nat) : Int)) :: led) { s' with heap := h' }) → it' = it → Q (some (.ref T)) s') :
    wpAny (model prog w) A (pyNext (.ref e)) Q E s := by
  obtain ⟨oi, hoi, hci, hdi⟩ := M.row (.head _)
  obtain ⟨oe, hoe, old, rfl⟩ := M.row (.tail _ (.head _))
  have hlt : i < x.cps.size := (Array.getElem?_eq_some_iff.mp hx).1
  refine wpAny_pyNext_enum_itemD (drawS (A := A.in1) hh it x t) hoe ⟨oi, hoi, hci, hdi⟩ hlt hne (fun hm => hne (List.mem_singleton.mp hm)) fun v h' tk hP ho hst hT hsz hk => ?_
  obtain ⟨c', u', hc', rfl⟩ := hP
  rw [hx] at hc'
  cases hc'
  refine h s.heap.objs.size tk u' _ it _ ho (fun h'' hE hs => ?_) rfl
  obtain ⟨old', hE⟩ := hE
  have hs : Heap.SameBut e h' h'' := hs
  have hilt : it < s.heap.objs.size := Heap.lt_size hoi
  have helt : e < s.heap.objs.size := Heap.lt_size hoe
  obtain ⟨oi', hoi', hci', hdi'⟩ := hst
  have hoi2 : h''.get? it = some oi' := (hs.2 it (Ne.symm hne)).trans hoi'
  have e1 : ((i + 1 : Nat) : Int) = (i : Int) + 1 := by push_cast; rfl
  have M1 := M.put (tk := s.toks) (P' := enS it ((i + 1 : Nat) : Int)) (.tail .head) (h' := s.heap.update e fun _ => { cls := .type "enumerate", dict := none, data := .fields #[.none, .bool false, .ref it, rawInt ((i : Int) + 1), .none, old'], slots := #[] })
    (fun b o hb e' => (Heap.get?_update_other _ _ (Ne.symm hb)).trans e') (Heap.get?_update_self _ hoe rfl) ⟨old', by rw [e1]⟩
  have g1 : ∀ b o, (s.heap.update e fun _ => { cls := .type "enumerate", dict := none, data := .fields #[.none, .bool false, .ref it, rawInt ((i : Int) + 1), .none, old'], slots := #[] }).get? b = some o → b ≠ it → h''.get? b = some o := fun b o e' hbi => by
    by_cases hbe : b = e
    · subst hbe
      rw [Heap.get?_update_self _ hoe rfl] at e'
      cases e'; exact hE
    · rw [Heap.get?_update_other _ _ (Ne.symm hbe)] at e'
      exact (hs.2 b hbe).trans (hk b o hbe hbi e')
  have hfi : oi'.isFreed = false := Obj.isFreed_of_fields hdi'
  have hoe1 : ∀ o, (s.heap.update e fun _ => { cls := .type "enumerate", dict := none, data := .fields #[.none, .bool false, .ref it, rawInt ((i : Int) + 1), .none, old'], slots := #[] }).get? it = some o → True := fun _ _ => trivial
  generalize hH : (s.heap.update e fun _ => { cls := .type "enumerate", dict := none, data := .fields #[.none, .bool false, .ref it, rawInt ((i : Int) + 1), .none, old'], slots := #[] }) = H at M1 g1
  have hHi : H.get? it = some oi := by rw [← hH]; exact (Heap.get?_update_other _ _ hne).trans hoi
  have hHz : H.objs.size = s.heap.objs.size := by rw [← hH]; exact Heap.size_update ..
  have M2 := M1.put (tk := s.toks) (P' := siS x t (i + 1)) .head (h' := H.update it fun _ => oi') (fun b o hb e' => (Heap.get?_update_other _ _ (Ne.symm hb)).trans e') (Heap.get?_update_self _ hHi hfi) ⟨hci', hdi'⟩
  refine M2.add (tk := tk + 1) ?_ (h' := h'') (fun b o e' => ?_) ((hs.2 _ (Nat.ne_of_gt helt)).trans hT) ⟨rfl, 0, rfl⟩
  · refine (Heap.get?_update_other _ _ (Nat.ne_of_lt hilt)).trans ?_
    rw [← hHz]; exact fresh_none H
  · by_cases hbi : b = it
    · subst hbi
      rw [Heap.get?_update_self _ hHi hfi] at e'
      cases e'; exact hoi2
    · rw [Heap.get?_update_other _ _ (Ne.symm hbi)] at e'
      exact g1 b o e' hbi

theorem enEnd {e it : Addr} {x : Str} {t : Tok} {Q : Option Value → Shared → Prop} (hh : A.handled = none) (M : Mm s₀ g true ((it, siS x t x.cps.size) :: (e, enS it (x.cps.size : Int)) :: led) s)
    (h : ∀ s', Mm s₀ g true ((e, enS it (x.cps.size : Int)) :: led) s' → Q none s') : wpAny (model prog w) A (pyNext (.ref e)) Q E s := by
  obtain ⟨oi, hoi, hci, hdi⟩ := M.row (.head _)
  obtain ⟨oe, hoe, old, rfl⟩ := M.row (.tail _ (.head _))
  refine wpAny_pyNext_enum_endD (drawS (A := A.in1) hh it x t) hoe ⟨oi, hoi, hci, hdi⟩ fun h' hx => h _ ?_
  obtain ⟨⟨hh, tk, rfl⟩, keep, has, own⟩ := M
  have hx : Heap.ExtBut it hh h' := hx
  refine ⟨⟨_, _, rfl⟩, fun b o e' => hx b o (fun z => ?_) (keep b o e'), fun p hp => ?_, fun _ => ⟨fun p hp => (own rfl).1 p (.tail _ hp), (List.nodup_cons.mp (own rfl).2).2⟩⟩
  · subst z; rw [(own rfl).1 _ (.head _)] at e'; cases e'
  · obtain ⟨o, ho, hP⟩ := has p (.tail _ hp)
    exact ⟨o, hx _ o (fun z => (List.nodup_cons.mp (own rfl).2).1 (z ▸ List.mem_map_of_mem (f := (·.1)) hp)) ho, hP⟩

theorem asgTup2 {x1 x2 : Str} {p1 p2 pos : Pos} {k} {T : Addr} {a b : Value} {Q : Unit → Shared → Prop} (hh : A.handled = none) (M : Mm s₀ g ok ((T, tupS #[a, b]) :: led) s)
    (h : ∀ s', Mm s₀ g ok led s' → wpAny (model prog w) A (storeName env x1 a) (fun _ s₂ => wpAny (model prog w) A (storeName env x2 b) Q E s₂) E s') :
    wpAny (model prog w) A (assign (.Tuple [.Name x1 p1, .Name x2 p2] k pos) env (.ref T)) Q E s := by
  obtain ⟨o, ho, hc, n, hd⟩ := M.row (.head _)
  refine wpAny_assign_Tuple hh ⟨o, ho, hc, n, hd⟩ rfl rfl fun h' hx => ?_
  have M' : Mm s₀ g ok led { s with heap := h' } := M.tail.kept (tk := s.toks) fun b o e => hx b o (Nat.ne_of_lt (Heap.lt_size e)) e
  show wpAny _ _ (do holding [b] (assign (.Name x1 p1) env a); do holding [] (assign (.Name x2 p2) env b); pure ()) _ _ _
  exact wpAny_bind (wpAny_holding (wpAny_assign_Name (wpAny_mono (h _ M') (fun _ s₂ h₂ => wpAny_bind (wpAny_holding (wpAny_assign_Name (wpAny_mono h₂ (fun _ s₃ h₃ => wpAny_pure h₃) fun _ _ e => e)))) fun _ _ e => e)))
end
end Mine

namespace Mine

section
variable {M : Model} {A : Around} {R : GenEnd} {Y : Protocol} {n : Nat} {s₀ : Shared} {c : Code} {fs : List Frame} {s : Shared} {env : Env}
  {K : Flow → Sem Fin} {H : Value → Sem Fin} {gd : Bool → Bool} {lv : List Value → List Value}

theorem segIf {test : Expr} {body orelse : List Stmt} {pos : Pos}
    (h : wpAny M (A.over c fs) (isTrue test env (eval test env)) (fun b s' => if b = true then Seg M A R Y n s₀ c ((execs body env).wrap K H gd lv) fs s' else Seg M A R Y n s₀ c ((execs orelse env).wrap K H gd lv) fs s')
      (fun x s' => Seg M A R Y n s₀ c (H x) fs s') s) : Seg M A R Y n s₀ c ((exec (.If test body orelse pos) env).wrap K H gd lv) fs s := by
  rw [exec_If]
  refine seg_bind_wrap (wpAny_standAt (seg_bind_wrap (wpAny_mono h (fun b s' hb => ?_) fun _ _ e => e)))
  cases b with
  | true => rw [if_pos rfl] at hb; exact hb
  | false => rw [if_neg Bool.false_ne_true] at hb; exact hb

/-- the frame of a function's body that waits for its loop -/
def forFrame (K : Flow → Sem Fin) (H : Value → Sem Fin) (gd : Bool → Bool) (lv : List Value → List Value) (env : Env) (c : Code) (p : Pos) : Frame :=
  .ret (fun r => ((match r with | .ok f => (.pure f : Sem Flow) | .error e => .raise e).onRaise fun (x : Value) => do
        if (← field x 1) == Value.none then unsupported "frame.own-activation:exception-without-traceback"
        setFlight x env.frame).wrap K H gd lv) none (gd false) (lv []) c p []

theorem segFor {target iter : Expr} {body orelse : List Stmt} {pos : Pos}
    (h : wpAny M (A.over c fs) (eval iter env) (fun x s₁ => wpAny M (A.over c fs) (pyIter x) (fun it s₂ => ∀ p, Seg M A R Y n s₀ (.forLoop target it body orelse env) (M.den (.forLoop target it body orelse env)) (forFrame K H gd lv env c p :: fs) s₂)
      (fun x s' => Seg M A R Y n s₀ c (H x) fs s') s₁) (fun x s' => Seg M A R Y n s₀ c (H x) fs s') s)
    (hs : ∀ x, foldedSetIterable iter env x = pure x := by intro _; rfl) :
    Seg M A R Y n s₀ c ((exec (.For target iter body orelse pos) env).wrap K H gd lv) fs s := by
  rw [exec_For]
  refine seg_bind_wrap (wpAny_standAt (seg_bind_wrap (wpAny_mono h (fun x s₁ h₁ => ?_) fun _ _ e => e)))
  refine seg_bind_wrap (wpAny_of_eq (hs x) (seg_bind_wrap (wpAny_standAt (seg_bind_wrap (wpAny_holding (wpAny_mono h₁ (fun it s₂ h₂ => ?_) fun _ _ e => e))))))
  exact seg_call h₂
end

section
variable {prog : Program} {w : World} {A : Around} {R : GenEnd} {Y : Protocol} {n : Nat} {s₀ : Shared} {fs : List Frame} {s : Shared} {env : Env}

/-- one turn of a for loop within a generator -/
theorem segTurn {target : Expr} {it : Value} {body : List Stmt}
    (h : wpAny (model prog w) (A.over (.forLoop target it body [] env) fs) (pyNext it) (fun r s₁ => match r with
      | none => Seg (model prog w) A R Y n s₀ (.block [] env) (.pure (.done .next)) fs s₁
      | some v => wpAny (model prog w) (A.over (.forLoop target it body [] env) fs) (letOwnedTupleGo target it v) (fun _ s₂ => wpAny (model prog w) (A.over (.forLoop target it body [] env) fs) (assign target env v) (fun _ s₃ =>
          ∀ (K' : Flow → Sem Fin) (H' : Value → Sem Fin) (gd' : Bool → Bool) (lv' : List Value → List Value), (K' .next = .pure (.again (.forLoop target it body [] env))) → gd' false = false →
            Seg (model prog w) A R Y n s₀ (.forLoop target it body [] env) ((execs body env).wrap K' H' gd' lv') fs s₃) (fun _ _ => False) s₂) (fun _ _ => False) s₁) (fun _ _ => False) s) :
    Seg (model prog w) A R Y n s₀ (.forLoop target it body [] env) ((model prog w).den (.forLoop target it body [] env)) fs s := by
  show Seg _ A R Y n s₀ _ ((forTurn target it body [] env).onRaise (fun x => do noteFrame x env; theTreesLotGoes x)) fs s
  unfold forTurn
  rw [Sem.onRaise_eq_wrap]
  refine seg_bind_wrap (wpAny_standAt (seg_bind_wrap (wpAny_onRaise (wpAny_mono h (fun r s₁ h₁ => ?_) fun _ _ e => e.elim))))
  cases r with
  | none => exact seg_again rfl h₁
  | some v =>
    refine seg_bind_wrap (wpAny_mono h₁ (fun _ s₂ h₂ => ?_) fun _ _ e => e.elim)
    refine seg_bind_wrap (wpAny_mono h₂ (fun _ s₃ h₃ => ?_) fun _ _ e => e.elim)
    show Seg _ A R Y n s₀ _ (Sem.wrap _ _ _ _ (execs body env >>= _)) fs s₃
    rw [Sem.bind_eq_wrap', Sem.wrap_wrap]
    exact h₃ _ _ _ _ rfl rfl
end
end Mine

namespace Mine
local macro_rules | `(tactic| ktr_rel) => `(tactic| first | exact Put.head | exact Put.tail (by ktr_rel))

/-! ## what _iter_escaped_chars yields -/
def escRest (i : Nat) (esc : Bool) : List Nat → List (Nat × Str)
  | [] => if esc then [(i - 1, ⟨#[92]⟩)] else []
  | c :: r => if esc then (i, ⟨#[92, c]⟩) :: escRest (i + 1) false r else if c = 92 then escRest (i + 1) true r else (i, ⟨#[c]⟩) :: escRest (i + 1) false r
def escFin (esc : Bool) : List Nat → Bool
  | [] => esc
  | c :: r => escFin (if esc then false else decide (c = 92)) r
theorem escFin_ne : ∀ (r : List Nat) (i : Nat) (esc : Bool), escFin esc r = true → escRest i esc r ≠ []
  | [], i, esc, h => by
    have h : esc = true := h
    subst h; show (if true = true then _ else _) ≠ []; rw [if_pos rfl]; exact List.cons_ne_nil _ _
  | c :: r, i, esc, h => by
    have h : escFin (if esc then false else decide (c = 92)) r = true := h
    show (if esc then _ else if c = 92 then _ else _) ≠ []
    cases esc with
    | true => rw [if_pos rfl]; exact List.cons_ne_nil _ _
    | false =>
      rw [if_neg Bool.false_ne_true]
      by_cases hc : c = 92
      · rw [if_pos hc]; rw [if_neg Bool.false_ne_true, decide_eq_true hc] at h; exact escFin_ne r _ _ h
      · rw [if_neg hc]; exact List.cons_ne_nil _ _

def fpAt (it e L : Addr) (fin : Bool) (m : Nat) : List Addr := if (fin && m == 0) = true then [L] else [it, e, L]
def genR (it e L : Addr) (fin : Bool) : GenEnd := fun n s₀ r s₁ => r = .ok (.ret .none) ∧ (n = 0 ∧ (∃ h tk, s₁ = { s₀ with heap := h, toks := tk }) ∧ ∀ b o, b ∉ fpAt it e L fin 0 → s₀.heap.get? b = some o → s₁.heap.get? b = some o)
def genY (it e L : Addr) (fin : Bool) (its : List (Nat × Str)) : Protocol := fun m s₀ v s₁ kap =>
  ∃ (T : Addr) (p : Nat) (u : Tok) (x : Str) (u' : Tok), v = .ref T ∧ its[its.length - 1 - m]? = some (p, x) ∧ (∃ h tk, s₁ = { s₀ with heap := h, toks := tk }) ∧ s₀.heap.get? T = none ∧ T ∉ [it, e, L] ∧
    (∃ o, s₁.heap.get? T = some o ∧ tupS #[.int p u, .str x u'] o) ∧ (∀ b o, b ∉ [it, e, L] → s₀.heap.get? b = some o → s₁.heap.get? b = some o) ∧ (∀ b ∈ fpAt it e L fin m, ∃ o, s₁.heap.get? b = some o) ∧
    ∀ s'', (∀ b ∈ fpAt it e L fin m, ∀ o, s₁.heap.get? b = some o → s''.heap.get? b = some o) → kap (.send .none) s''

/-- the state at a wake, without the generator's own objects -/
def wakeB (s₀ : Shared) (fp : List Addr) : Shared := { s₀ with heap := hide s₀.heap fp }

theorem Mm.rewake {sb s₁ s'' : Shared} {g : Array GenState} {led : Led} (M : Mm sb g true led s₁) {fp : List Addr} (hfp : fp = led.map (·.1)) (h : ∀ b ∈ fp, ∀ o, s₁.heap.get? b = some o → s''.heap.get? b = some o) :
    Mm (wakeB s'' fp) s''.gens true led s'' := by
  subst hfp
  refine ⟨⟨s''.heap, s''.toks, rfl⟩, fun b o e => hide_sub _ _ e, fun p hp => ?_, fun _ => ⟨fun p hp => hide_in _ _ _ (List.mem_map_of_mem (f := (·.1)) hp), (M.own rfl).2⟩⟩
  obtain ⟨o, ho, hP⟩ := M.has p hp
  exact ⟨o, h _ (List.mem_map_of_mem (f := (·.1)) hp) o ho, hP⟩

theorem frameOf {s₀ s₁ : Shared} {led : Led} {fp : List Addr} (M : Mm (wakeB s₀ fp) s₀.gens true led s₁) : (∃ h tk, s₁ = { s₀ with heap := h, toks := tk }) ∧ (∀ b o, b ∉ fp → s₀.heap.get? b = some o → s₁.heap.get? b = some o) ∧
    ∀ p ∈ led, p.1 ∉ fp → s₀.heap.get? p.1 = none := by
  refine ⟨?_, fun b o hb e => M.keep b o ((hide_out s₀.heap fp b hb).trans e), fun p hp hn => ?_⟩
  · obtain ⟨⟨h, tk, e⟩, _⟩ := M
    exact ⟨h, tk, e⟩
  · exact (hide_out s₀.heap fp _ hn).symm.trans ((M.own rfl).1 p hp)

def forTgt : Stmt → Expr
  | .For t _ _ _ _ => t
  | _ => .Constant .none 0 ⟨0, 0, 0, 0⟩
def forBody : Stmt → List Stmt
  | .For _ _ b _ _ => b
  | _ => []
def iterFor : Stmt := dIter.body.getD 2 (.Pass ⟨0, 0, 0, 0⟩)

section
variable {prog : Program} {w : World} {A : Around} {s : Shared} {mg mb : Str → Option Value}
set_option maxHeartbeats 4000000

theorem segLoop (hh : A.handled = none) {it e L a : Addr} {cd : Value} (hne : e ≠ it) {txt : Str} {t : Tok} (hsz : txt.cps.size ≤ 100) {its : List (Nat × Str)} {fin : Bool}
    {K : Flow → Sem Fin} {H : Value → Sem Fin} {gd : Bool → Bool} {lv : List Value → List Value} {c : Code} {p : Pos} (hgd : gd false = false)
    (rest' : ∀ s₀ s esc rest pre u, its = pre ++ escRest txt.cps.size esc [] → fin = esc →
      Mm (wakeB s₀ [it, e, L]) s₀.gens true [(e, enS it (txt.cps.size : Int)), (L, nsS (look (("addr", .str txt t) :: ("pos", .int ((txt.cps.size - 1 : Nat) : Int) u) :: ("escape", .bool esc) :: rest)))] s →
      Seg (model prog w) A (genR it e L fin) (genY it e L fin its) (escRest txt.cps.size esc []).length s₀ c (K .next) [] s) :
    ∀ (r : List Nat) (i : Nat) (esc : Bool) (rest : List (Str × Value)) (pre : List (Nat × Str)) (u : Tok) (s₀ s : Shared), txt.cps.toList.drop i = r → i ≤ txt.cps.size → its = pre ++ escRest i esc r → fin = escFin esc r →
      Mm (wakeB s₀ [it, e, L]) s₀.gens true [(it, siS txt t i), (e, enS it (i : Int)), (L, nsS (look (("addr", .str txt t) :: ("pos", .int ((i - 1 : Nat) : Int) u) :: ("escape", .bool esc) :: rest)))] s →
      Seg (model prog w) A (genR it e L fin) (genY it e L fin its) (escRest i esc r).length s₀ (.forLoop (forTgt iterFor) (.ref e) (forBody iterFor) [] (fenv dIter L a cd [])) ((model prog w).den (.forLoop (forTgt iterFor) (.ref e) (forBody iterFor) [] (fenv dIter L a cd [])))
        [forFrame K H gd lv (fenv dIter L a cd []) c p] s := by
  intro r
  induction r with
  | nil =>
    intro i esc rest pre u s₀ s hr hi hits hfin M
    have hin : i = txt.cps.size := by
      have := List.drop_eq_nil_iff.mp hr
      rw [Array.length_toList] at this
      omega
    subst hin
    refine segTurn (enEnd hh M fun s' M => ?_)
    exact seg_leaf (.ok .next) (rest' s₀ s' esc rest pre u hits hfin M)
  | cons ch r ih =>
    intro i esc rest pre u s₀ s hr hi hits hfin M
    have hch : txt.cps.toList[i]? = some ch := by
      have := congrArg (fun l => l[0]?) hr
      simpa using this
    have hlt : i < txt.cps.size := by
      have := (List.getElem?_eq_some_iff.mp hch).1
      rwa [Array.length_toList] at this
    have hcc : txt.cps[i]? = some ch := by simpa using hch
    have hr' : txt.cps.toList.drop (i + 1) = r := by
      have := congrArg List.tail hr
      rwa [List.tail_drop] at this
    refine segTurn (enNext hh hne hcc M fun T u₁ u₂ s' it' v hE hM hit => ?_)
    subst hit
    refine wpAny_letOwnedTupleGo_enum hE fun h' he' hs' => ?_
    have M := hM h' ⟨_, he'⟩ hs'
    refine asgTup2 hh M fun s' M => stL M (by ktr_rel) fun s' M => stL M (by ktr_rel) fun s' M K' H' gd' lv' hK' hgd' => ?_
    have hfl : splitAtGen [forFrame K H gd lv (fenv dIter L a cd []) c p] = none := rfl
    have hfg : List.any [forFrame K H gd lv (fenv dIter L a cd []) c p] Frame.guarded = false := by show (gd false || false) = false; rw [hgd]; rfl
    have key : ∀ (m : Nat) (T : Addr) (y : Str) (u' : Tok) (led : Led) (s₁ : Shared) (tl : List (Nat × Str)) (kap : Resume → Shared → Prop), its = pre ++ (i, y) :: tl → m = tl.length → led.map (·.1) = [it', e, L] → (fin = true → tl ≠ []) →
        Mm (wakeB s₀ [it', e, L]) s₀.gens true ((T, tupS #[.int i u₁, .str y u']) :: led) s₁ →
        (∀ s'', Mm (wakeB s'' [it', e, L]) s''.gens true led s'' → kap (.send .none) s'') → genY it' e L fin its m s₀ (.ref T) s₁ kap := by
      intro m T y u' led s₁ tl kap h1 h2 h3 h4 M hk
      obtain ⟨f1, f2, f3⟩ := frameOf M
      have hfp : fpAt it' e L fin m = [it', e, L] := by
        unfold fpAt
        rw [if_neg]
        intro h
        rw [Bool.and_eq_true] at h
        have := h4 h.1
        rw [beq_iff_eq, h2] at h
        exact this (List.length_eq_zero_iff.mp h.2)
      have hT : T ∉ [it', e, L] := by
        have := (M.own rfl).2
        rw [List.map_cons, h3] at this
        exact (List.nodup_cons.mp this).1
      refine ⟨T, i, u₁, y, u', rfl, ?_, f1, f3 _ (.head _) hT, hT, M.row (.head _), f2, ?_, fun s'' hs => hk s'' ?_⟩
      · rw [h1, h2, List.length_append, List.length_cons, show pre.length + (tl.length + 1) - 1 - tl.length = pre.length by omega, List.getElem?_append_right (Nat.le_refl _), Nat.sub_self]; rfl
      · rw [hfp]
        intro b hb
        rw [← h3] at hb
        obtain ⟨q, hq, rfl⟩ := List.mem_map.mp hb
        obtain ⟨o, ho, _⟩ := M.has q (.tail _ hq)
        exact ⟨o, ho⟩
      · rw [hfp] at hs
        exact M.tail.rewake h3.symm hs
    refine seg_execs_cons (segIf (wpAny_isTrue_value (ldL M (by k_mem) rfl (wpAny_truthy_bool ?_))))
    have eL : ((i + 1 - 1 : Nat) : Int) = (i : Int) := by simp
    cases esc with
    | true =>
      rw [if_pos rfl]
      show Seg _ A _ _ ((escRest (i + 1) false r).length + 1) _ _ _ _ _
      refine seg_execs_cons (seg_Expr_Yield hfl hgd' hfg (Tup2 (ldL M (by k_mem) rfl (wpAny_BinOp (cStr M fun _ _ M => ldL M (by k_mem) (look_self _ _ _) (addS M (by rw [sizeLine_eq]; exact (by decide : (1 : Nat) + 1 ≤ 16777216)) fun _ _ M => newTup M fun T _ M kap hkap => ?_))))))
      refine key _ T _ _ _ _ (escRest (i + 1) false r) kap hits rfl rfl (fun hf => escFin_ne _ _ _ (by rw [← hf]; exact hfin.symm)) M fun s'' M => hkap .none s'' ?_
      refine seg_execs_cons (seg_wrap (wpAny_Assign_Name (Constant_bool (stL M (by ktr_rel) fun s₂ M => ?_))))
      show Seg _ A _ _ _ _ _ (K' .next) _ _
      rw [hK']
      refine seg_again rfl (ih (i + 1) false (put "ch" (.str ⟨#[ch]⟩ u₂) rest) (pre ++ [(i, ⟨#[92, ch]⟩)]) u₁ _ _ hr' hlt (by rw [hits, List.append_assoc]; rfl) hfin ?_)
      rw [eL]; exact M
    | false =>
      rw [if_neg Bool.false_ne_true]
      refine seg_execs_cons (segIf (wpAny_isTrue_Compare1 (ldL M (by k_mem) (look_self _ _ _) (cStr M fun _ _ M => PyProof.Rows.eq_str (wpAny_truthy_bool ?_)))))
      rw [sgn_eq (x := "\\") (k := 92) rfl]
      by_cases hb : ch = 92
      · rw [decide_eq_true hb, if_pos rfl]
        have hres : escRest i false (ch :: r) = escRest (i + 1) true r := by
          show (if false = true then _ else if ch = 92 then _ else _) = _
          rw [if_neg Bool.false_ne_true, if_pos hb]
        have hfin' : fin = escFin true r := by
          rw [hfin]; show escFin (if false = true then false else decide (ch = 92)) r = _
          rw [if_neg Bool.false_ne_true, decide_eq_true hb]
        rw [hres] at hits ⊢
        refine seg_execs_cons (seg_wrap (wpAny_Assign_Name (Constant_bool (stL M (by ktr_rel) fun s₂ M => ?_))))
        show Seg _ A _ _ _ _ _ (K' .next) _ _
        rw [hK']
        refine seg_again rfl (ih (i + 1) true (put "ch" (.str ⟨#[ch]⟩ u₂) rest) pre u₁ _ _ hr' hlt hits hfin' ?_)
        rw [eL]; exact M
      · rw [decide_eq_false hb, if_neg Bool.false_ne_true]
        have hres : escRest i false (ch :: r) = (i, ⟨#[ch]⟩) :: escRest (i + 1) false r := by
          show (if false = true then _ else if ch = 92 then _ else _) = _
          rw [if_neg Bool.false_ne_true, if_neg hb]
        have hfin' : fin = escFin false r := by
          rw [hfin]; show escFin (if false = true then false else decide (ch = 92)) r = _
          rw [if_neg Bool.false_ne_true, decide_eq_false hb]
        rw [hres] at hits ⊢
        show Seg _ A _ _ ((escRest (i + 1) false r).length + 1) _ _ _ _ _
        refine seg_execs_cons (seg_Expr_Yield hfl hgd' hfg (Tup2 (ldL M (by k_mem) rfl (ldL M (by k_mem) (look_self _ _ _) (newTup M fun T _ M kap hkap => ?_)))))
        refine key _ T _ _ _ _ (escRest (i + 1) false r) kap hits rfl rfl (fun hf => escFin_ne _ _ _ (by rw [← hf]; exact hfin'.symm)) M fun s'' M => hkap .none s'' ?_
        show Seg _ A _ _ _ _ _ (K' .next) _ _
        rw [hK']
        refine seg_again rfl (ih (i + 1) false (put "ch" (.str ⟨#[ch]⟩ u₂) rest) (pre ++ [(i, ⟨#[ch]⟩)]) u₁ _ _ hr' hlt (by rw [hits, List.append_assoc]; rfl) hfin' ?_)
        rw [eL]; exact M
end
end Mine

namespace Mine
local macro_rules | `(tactic| ktr_rel) => `(tactic| first | exact Put.head | exact Put.tail (by ktr_rel))

section
variable {prog : Program} {w : World} {A : Around} {s : Shared} {mg mb : Str → Option Value}
set_option maxHeartbeats 4000000

theorem stLz {M' : Model} {A : Around} {E : Value → Shared → Prop} {s₀ s : Shared} {g : Array GenState} {led led' : Led} {env : Env} {x : Str} {v : Value} {l : List (Str × Value)} {Q : Unit → Shared → Prop} (M : Mm s₀ g true led s) (hp : Put env.locals (nsS (look l)) (nsS (look (put x v l))) led led')
    (h : ∀ s', s'.heap.objs.size = s.heap.objs.size → Mm s₀ g true led' s' → Q () s') (hk : env.scope.kind = .function := by rfl) (hl : env.kindOf x = some .local := by rfl) :
    wpAny M' A (storeName env x v) Q E s :=
  wpAny_storeName_local hl (ns_of M hp.mem) (fun h' hn' hs' => h _ hs'.1 (by
    obtain ⟨o, es, ep, ho, hd, hs, hf⟩ := hn'
    exact M.put hp (fun b o hb e => (hs'.2 b hb).trans e) ho ⟨es, ep, hd, hs, fun name => by rw [hf, look_put]⟩)) (by rw [hk]; rfl)

theorem newTupZ {M' : Model} {A : Around} {E : Value → Shared → Prop} {s₀ s : Shared} {g : Array GenState} {ok : Bool} {led : Led} {vs : List Value} {Q : Value → Shared → Prop} (M : Mm s₀ g ok led s) (h : ∀ a s', a = s.heap.objs.size → Mm s₀ g ok ((a, tupS vs.toArray) :: led) s' → Q (.ref a) s') (hsz : vs.length ≤ sizeLine := by size_fits) : wpAny M' A (newTuple vs) Q E s :=
  wpAny_newObj_type (h _ _ rfl (M.alloc (tk := s.toks) ⟨rfl, 0, rfl⟩ rfl)) (by show vs.toArray.size ≤ sizeLine; rw [List.size_toArray]; exact hsz)

theorem segGen (hh : A.handled = none) {L a : Addr} {cd : Value} {txt : Str} {t : Tok} (hsz : txt.cps.size ≤ 100) {s₀ : Shared} (N : Addr) (hN : N = s₀.heap.objs.size) (B : Base mg mb (hide s₀.heap [N, N + 1, L]))
    (hL : ∃ o, s₀.heap.get? L = some o ∧ nsS (look [("addr", .str txt t)]) o) :
    Seg (model prog w) A (genR N (N + 1) L (escFin false txt.cps.toList)) (genY N (N + 1) L (escFin false txt.cps.toList) (escRest 0 false txt.cps.toList)) (escRest 0 false txt.cps.toList).length s₀
      (.func dIter.body (fenv dIter L a cd [])) ((model prog w).den (.func dIter.body (fenv dIter L a cd []))) [] s₀ := by
  have hLN : L < N := by obtain ⟨o, ho, _⟩ := hL; rw [hN]; exact Heap.lt_size ho
  have hne : N + 1 ≠ N := Nat.succ_ne_self N
  have M : Mm (wakeB s₀ [N, N + 1, L]) s₀.gens true [(L, nsS (look [("addr", .str txt t)]))] s₀ := by
    refine ⟨⟨s₀.heap, s₀.toks, rfl⟩, fun b o e => hide_sub _ _ e, fun p hp => ?_, fun _ => ⟨fun p hp => ?_, by simp⟩⟩
    · rw [List.mem_singleton.mp hp]; exact hL
    · rw [List.mem_singleton.mp hp]; exact hide_in _ _ _ (by simp)
  refine seg_func ?_
  refine seg_execs_cons (seg_wrap (wpAny_Assign_Name (wpAny_Constant_int (stLz M.tok (by ktr_rel) fun s₁ z₁ M => ?_))))
  refine seg_execs_cons (seg_wrap (wpAny_Assign_Name (Constant_bool (stLz M (by ktr_rel) fun s₂ z₂ M => ?_))))
  have hz : s₂.heap.objs.size = N := by rw [z₂, z₁, hN]
  refine seg_execs_cons (segFor (callB1 B M (by k_mem) (ldL M (by k_mem) rfl (enNew M fun s₃ M => ?_))))
  rw [hz] at M ⊢
  obtain ⟨oe, hoe, old, rfl⟩ := M.row (.tail _ (.head _))
  refine wpAny_pyIter_enum hoe fun p => ?_
  refine segLoop hh hne hsz (its := escRest 0 false txt.cps.toList) (fin := escFin false txt.cps.toList) rfl ?_ txt.cps.toList 0 false [] [] _ s₀ s₃ rfl (Nat.zero_le _) rfl rfl M
  intro s₀ s esc rest pre u hits hfin M
  refine seg_execs_cons (segIf (wpAny_isTrue_value (ldL M (by k_mem) rfl (wpAny_truthy_bool ?_))))
  cases esc with
  | true =>
    rw [if_pos rfl]
    refine seg_execs_cons (seg_Expr_Yield rfl rfl rfl (Tup2 (ldL M (by k_mem) rfl (cStr M fun _ sz M₀ => newTupZ M₀ fun T _ hTz M kap hkap => ?_))))
    obtain ⟨f1, f2, f3⟩ := frameOf M
    have hfp : fpAt N (N + 1) L (escFin false txt.cps.toList) 0 = [L] := by rw [hfin]; rfl
    have hT : T ∉ [N, N + 1, L] := by
      have := (M.own rfl).2
      simp only [List.map_cons, List.map_nil, List.nodup_cons, List.mem_cons, List.not_mem_nil, or_false, not_or] at this
      have hlt : N + 1 < T := by
        obtain ⟨o, ho, _⟩ := M₀.row (.head _)
        rw [hTz]; exact Heap.lt_size ho
      simp only [List.mem_cons, List.not_mem_nil, or_false, not_or]
      exact ⟨Nat.ne_of_gt (Nat.lt_trans (Nat.lt_succ_self N) hlt), this.1.1, this.1.2⟩
    refine ⟨T, txt.cps.size - 1, u, ⟨#[92]⟩, _, rfl, ?_, f1, f3 _ (.head _) hT, hT, M.row (.head _), f2, ?_, fun s'' hs => hkap .none s'' ?_⟩
    · rw [hits]
      show (pre ++ [(txt.cps.size - 1, (⟨#[92]⟩ : Str))])[(pre ++ [(txt.cps.size - 1, (⟨#[92]⟩ : Str))]).length - 1 - 0]? = _
      rw [List.length_append, List.length_singleton, show pre.length + 1 - 1 - 0 = pre.length by omega, List.getElem?_append_right (Nat.le_refl _), Nat.sub_self]; rfl
    · show ∀ b ∈ fpAt N (N + 1) L (escFin false txt.cps.toList) 0, _
      rw [hfp]
      intro b hb
      rw [List.mem_singleton.mp hb]
      obtain ⟨o, ho, _⟩ := M.row (.tail _ (.tail _ (.head _)))
      exact ⟨o, ho⟩
    · refine seg_end (.ok (.ret .none)) ⟨rfl, rfl, ⟨_, _, rfl⟩, fun b o _ e => e⟩
  | false =>
    rw [if_neg Bool.false_ne_true]
    obtain ⟨f1, f2, f3⟩ := frameOf M
    refine seg_end (.ok (.ret .none)) ⟨rfl, rfl, f1, ?_⟩
    rw [show fpAt N (N + 1) L (escFin false txt.cps.toList) 0 = [N, N + 1, L] by rw [hfin]; rfl]
    exact f2
end
end Mine

namespace Mine

def genS (gi : Nat) : Slot := fun o => ∃ nm qn, o.cls = .type "generator" ∧ o.data = .fields #[.int gi 0, nm, qn] ∧ o.slots = #[]
def Bare (g : Array GenState) : Prop := ∀ x ∈ g, x.bare = true
theorem Bare.push {g : Array GenState} {c : Code} (h : Bare g) : Bare (g.push (.fresh c)) := fun x hx => by
  rcases Array.mem_push.mp hx with hx | rfl
  · exact h x hx
  · rfl
theorem Bare.set {g : Array GenState} {i : Nat} {x : GenState} (h : Bare g) (hx : x.bare = true) : Bare (g.setIfInBounds i x) := fun y hy => by
  rcases Array.mem_or_eq_of_mem_setIfInBounds hy with hy | rfl
  · exact h y hy
  · exact hx

section
variable {prog : Program} {w : World} {A : Around} {E : Value → Shared → Prop} {s₀ s : Shared} {g : Array GenState} {ok : Bool} {led led' : Led} {env : Env} {mg mb : Str → Option Value}

/-- a StopIteration made and raised, none being handled -/
theorem stopRaised {α β : Type} {K : α → Sem β} {Q : β → Shared → Prop} (hh : A.handled = none)
    (h : ∀ h' e, (∀ b o, s.heap.get? b = some o → h'.get? b = some o) → Shared.TypeIs { s with heap := h' } (.ref e) "StopIteration" → E (.ref e) { s with heap := h' }) :
    wpAny (model prog w) A (newExc (.type "StopIteration") [] >>= fun e => (raiseNew e : Sem α) >>= K) Q E s := by
  unfold newExc newTuple
  have k : ∀ (o₁ o₂ : Obj) b o, s.heap.get? b = some o → ((s.heap.push o₁).push o₂).get? b = some o := fun _ _ b o e => Heap.get?_push_of_some _ (Heap.get?_push_of_some _ e)
  refine wpAny_bind (wpAny_bind (wpAny_newObj_type ?_ (by size_fits)))
  refine wpAny_bind (wpAny_of_eq (a := Value.none) (by simp only [firstArgMember]; rfl) (wpAny_newObj_type ?_ (by size_fits)))
  exact wpAny_bind (wpAny_raiseNew_none hh (h _ _ (k _ _) ⟨_, Heap.get?_push_size _ rfl, rfl⟩))

/-- what a generator's next gives; what is left of it is bare -/
theorem pyNextGenQ {a : Addr} {gi n : Nat} {gs : GenState} {P : Nat → Shared → Shared → Prop} {Y : Protocol} {Q : Option Value → Shared → Prop} (hh : A.handled = none)
    (hl : s.heap.NoLimit) (hroom : A.depth < recursionLimit)
    (hg : s.heap.IsGen a gi) (hgs : s.gens[gi]? = some gs)
    (hgo : gs.Goes (model prog w) A.in1 (fun n s₀ r s₁ => r = .ok (.ret .none) ∧ P n s₀ s₁) Y n (.send .none) (s.setGen gi .running))
    (hY : ∀ v s₁ gs', gs'.bare = true → Y (n - 1) (s.setGen gi .running) v s₁ (fun r' s'' => match n with
        | 0 => False
        | m + 1 => gs'.Goes (model prog w) A.in1 (fun n s₀ r s₁ => r = .ok (.ret .none) ∧ P n s₀ s₁) Y m r' s'') → Q (some v) (s₁.setGen gi gs'))
    (hP : ∀ s₁, P n (s.setGen gi .running) s₁ → ∀ h', (∀ b o, s₁.heap.get? b = some o → h'.get? b = some o) → Q none { s₁.setGen gi .finished with heap := h' }) :
    wpAny (model prog w) A (pyNext (.ref a)) Q E s := by
  unfold pyNext
  refine wpAny_bind (wpAny_attempt (wpAny_callSpecial?_slot (name := Str.ofString "__next__") hg.typeIs slot_gen_next (wpAny_call_entry slot_gen_next hg.typeIs entry_gen_next ?_ (args_gen_next _))))
  show wpAny _ A.in1 (Builtin.Generator.genWake (.ref a) (.send .none)) _ _ s
  unfold Builtin.Generator.genWake
  have wake : gs.status = .fresh ∨ gs.status = .suspended := by
    cases gs with
    | fresh => exact .inl rfl
    | suspended => exact .inr rfl
    | running => exact hgo.elim
    | finished => exact hgo.elim
  refine wpAny_bind (wpAny_holding (wpAny_genNumber hg (wpAny_bind (wpAny_genState hgs ?_))))
  rcases wake with e | e <;> rw [e] <;> refine wpAny_bind (wpAny_roomToWake hl hroom (wpAny_resumeQ hgs hgo (fun x s₁ hx => ?_) fun v s₁ gs' hb hv => wpAny_pure ⟨v, rfl, wpAny_pure (hY v s₁ gs' hb hv)⟩)) <;>
  · obtain ⟨rfl, hp⟩ := hx
    exact stopRaised hh fun h' b hk ho => wpAny_bind (wpAny_isInstance ho isSubtype_stop (wpAny_pure (hP s₁ hp h' hk)))

/-- a generator made by its function's call -/
theorem fnCallGen {d : DefRec} {a : Addr} {Q : Value → Shared → Prop} {vals : List Value} {binds : List (Str × Value)} (F : FnAt d a s.heap) (nl : s.heap.NoLimit) (hd : A.depth < recursionLimit)
    (hbind : ∀ pm cd doc, bindArgs (docDef d.name d.params d.body d.scope pm cd doc) ⟨vals, []⟩ = pure binds)
    (hcell : ∀ x ∈ d.scope.names, x.2 ≠ .cell) (hloc : ∀ x ∈ binds, d.scope.names.lookup x.1 = some .local)
    (h : ∀ ag L cd s₁, Mm s (s.gens.push (.fresh (.func d.body (fenv d L a cd [])))) true [(ag, genS s.gens.size), (L, nsS (look binds.reverse))] s₁ → Q (.ref ag) s₁)
    (hco : d.scope.isCoroutine = false := by rfl) (hgen : d.scope.isGenerator = true := by rfl) (hk : d.scope.kind = .function := by rfl) :
    wpAny (model prog w) A (call (.ref a) vals) Q E s := by
  obtain ⟨o, pm, cd, doc, ho, hdata, hcd⟩ := F
  refine wpAny_call (codeAny_call_generator hd ho hdata hco hgen rfl hcd ?_)
  rw [hbind pm cd doc]
  refine wpAny_pure (wpAny_newFunctionEnv hcell hloc (fun h' hn' hs' => ?_) hk)
  have keep : ∀ b o, s.heap.get? b = some o → h'.get? b = some o := fun b o e => (hs'.2 b (Nat.ne_of_lt (Heap.lt_size e))).trans (Heap.get?_push_of_some _ e)
  refine ⟨nl.keeps keep, ?_⟩
  have hsz : h'.objs.size = s.heap.objs.size + 1 := by rw [hs'.1, Heap.size_push]
  have henv : newEnv d.scope s.heap.objs.size mainGlobals [] (d.name ++ ".<locals>.") (some a) cd none builtinsNs = fenv d s.heap.objs.size a cd [] := rfl
  refine h h'.objs.size s.heap.objs.size cd _ ⟨⟨_, _, rfl⟩, fun b o e => Heap.get?_push_of_some _ (keep b o e), fun p hp => ?_, fun _ => ⟨fun p hp => ?_, ?_⟩⟩
  · simp only [List.mem_cons, List.not_mem_nil, or_false] at hp
    rcases hp with rfl | rfl
    · exact ⟨_, Heap.get?_push_size _ rfl, _, _, rfl, rfl, rfl⟩
    · obtain ⟨oL, es, ep, hoL, hd', hs2, hf⟩ := hn'
      exact ⟨oL, Heap.get?_push_of_some _ hoL, es, ep, hd', hs2, fun name => by rw [hf]; exact look_lookup _ _⟩
  · simp only [List.mem_cons, List.not_mem_nil, or_false] at hp
    have old : ∀ b, s.heap.objs.size ≤ b → s.heap.get? b = none := fun b hb => by
      cases e : s.heap.get? b with
      | none => rfl
      | some o' => exact absurd (Heap.lt_size e) (Nat.not_lt.mpr hb)
    rcases hp with rfl | rfl
    · exact old _ (by rw [hsz]; exact Nat.le_succ _)
    · exact old _ (Nat.le_refl _)
  · simp only [List.map_cons, List.map_nil, List.nodup_cons, List.mem_cons, List.not_mem_nil, or_false, not_false_eq_true, List.nodup_nil, and_true]
    rw [hsz]; exact Nat.succ_ne_self _

/-- a generator that has been woken: its own objects and its readiness -/
structure GAt (prog : Program) (w : World) (A : Around) (s₀ : Shared) (a : Addr) (gi : Nat) (it e L : Addr) (fin : Bool) (its : List (Nat × Str)) (n : Nat) (led : Led) (s : Shared) : Prop where
  run : ∃ g, Bare g ∧ Mm s₀ g true (led ++ frz s.heap (a :: fpAt it e L fin n)) s ∧ ∃ gs, g[gi]? = some gs ∧ ∀ s'' : Shared, (∀ b ∈ fpAt it e L fin n, ∀ o, s.heap.get? b = some o → s''.heap.get? b = some o) →
    gs.Goes (model prog w) A.in1 (genR it e L fin) (genY it e L fin its) n (.send .none) s''
  gen : s.heap.IsGen a gi
  d3 : [it, e, L].Nodup
  n3 : ∀ b ∈ [it, e, L], s₀.heap.get? b = none
  a3 : a ∉ [it, e, L]

theorem fpAt_sub {it e L : Addr} {fin : Bool} {n : Nat} {b : Addr} (h : b ∈ fpAt it e L fin n) : b ∈ [it, e, L] := by
  unfold fpAt at h
  split at h
  · rw [List.mem_singleton.mp h]; simp
  · exact h
theorem fpAt_succ (it e L : Addr) (fin : Bool) (n : Nat) : fpAt it e L fin (n + 1) = [it, e, L] := by
  unfold fpAt
  rw [if_neg]
  intro h
  rw [Bool.and_eq_true] at h
  exact absurd h.2 (by simp)
theorem fpAt_nodup {it e L : Addr} {fin : Bool} {n : Nat} (h : [it, e, L].Nodup) : (fpAt it e L fin n).Nodup := by
  unfold fpAt
  split
  · simp
  · exact h

theorem gCore {a it e L : Addr} {gi n : Nat} {fin : Bool} {its : List (Nat × Str)} {gs : GenState} {Q : Option Value → Shared → Prop} (hh : A.handled = none) (nl : s₀.heap.NoLimit) (hroom : A.depth < recursionLimit)
    (M : Mm s₀ g true led s) (hb : Bare g) (hg : s.heap.IsGen a gi) (hgs : g[gi]? = some gs) (d3 : [it, e, L].Nodup) (n3 : ∀ b ∈ [it, e, L], s₀.heap.get? b = none) (a3 : a ∉ [it, e, L]) (ha0 : s₀.heap.get? a = none)
    (hal : a ∉ led.map (·.1)) (hdis : ∀ p ∈ led, p.1 ∉ fpAt it e L fin n)
    (hgo : gs.Goes (model prog w) A.in1 (genR it e L fin) (genY it e L fin its) n (.send .none) (s.setGen gi .running))
    (hY : ∀ m T p u x u' s', n = m + 1 → its[its.length - 1 - m]? = some (p, x) → GAt prog w A s₀ a gi it e L fin its m ((T, tupS #[.int (p : Nat) u, .str x u']) :: led) s' → Q (some (.ref T)) s')
    (hP : ∀ g' s', n = 0 → Bare g' → Mm s₀ g' true led s' → Q none s') :
    wpAny (model prog w) A (pyNext (.ref a)) Q E s := by
  have hgg := M.gens
  refine pyNextGenQ (P := fun n s₀ s₁ => n = 0 ∧ (∃ h tk, s₁ = { s₀ with heap := h, toks := tk }) ∧ ∀ b o, b ∉ fpAt it e L fin 0 → s₀.heap.get? b = some o → s₁.heap.get? b = some o) hh (nl.keeps M.keep) hroom hg (by rw [hgg]; exact hgs) hgo (fun v s₁ gs' hbare hv => ?_) (fun s₁ hp h' hk => ?_)
  · cases n with
    | zero =>
      obtain ⟨T, p, u, x, u', rfl, hi, _, _, _, _, _, _, hkap⟩ := hv
      exact False.elim (hkap s₁ fun _ _ _ e => e)
    | succ m =>
      obtain ⟨T, p, u, x, u', rfl, hi, ⟨h₁, tk₁, rfl⟩, hT, hT3, hTr, hfr, hex, hkap⟩ := hv
      rw [fpAt_succ] at hdis
      have hT : s.heap.get? T = none := hT
      have hfr : ∀ b o, b ∉ [it, e, L] → s.heap.get? b = some o → h₁.get? b = some o := hfr
      have hTr : ∃ o, h₁.get? T = some o ∧ tupS #[.int (p : Nat) u, .str x u'] o := hTr
      have hex : ∀ b ∈ fpAt it e L fin m, ∃ o, h₁.get? b = some o := hex
      refine hY m T p u x u' _ rfl hi ⟨⟨(s.gens.setIfInBounds gi .running).setIfInBounds gi gs', ?_, ⟨?_, ?_, ?_, fun _ => ⟨?_, ?_⟩⟩, gs', ?_, ?_⟩, ?_, d3, n3, a3⟩
      · rw [hgg]; exact (hb.set rfl).set hbare
      · obtain ⟨⟨hh', tk', rfl⟩, _⟩ := M
        exact ⟨h₁, tk₁, rfl⟩
      · exact fun b o e' => hfr b o (fun hm => by rw [n3 b hm] at e'; cases e') (M.keep b o e')
      · intro q hq
        rcases List.mem_cons.mp hq with rfl | hq
        · exact hTr
        · rcases List.mem_append.mp hq with hq | hq
          · obtain ⟨o, ho, hP⟩ := M.has q hq
            exact ⟨o, hfr _ _ (hdis q hq) ho, hP⟩
          · obtain ⟨b, hb', rfl⟩ := List.mem_map.mp hq
            rcases List.mem_cons.mp hb' with rfl | hb'
            · obtain ⟨o, nm, qn, ho, _⟩ := hg
              exact ⟨o, hfr _ _ a3 ho, hfr _ _ a3 ho⟩
            · obtain ⟨o, ho⟩ := hex b hb'
              exact ⟨o, ho, ho⟩
      · intro q hq
        rcases List.mem_cons.mp hq with rfl | hq
        · exact M.old_none hT
        · rcases List.mem_append.mp hq with hq | hq
          · exact (M.own rfl).1 q hq
          · obtain ⟨b, hb', rfl⟩ := List.mem_map.mp hq
            rcases List.mem_cons.mp hb' with rfl | hb'
            · exact ha0
            · exact n3 b (fpAt_sub hb')
      · rw [List.cons_append, List.map_cons, List.map_append, frz_adr]
        have hTl : T ∉ led.map (·.1) := fun hm => by
          obtain ⟨q, hq, rfl⟩ := List.mem_map.mp hm
          obtain ⟨o, ho, _⟩ := M.has q hq
          rw [hT] at ho; cases ho
        have hTa : T ≠ a := fun h => by
          obtain ⟨o, nm, qn, ho, _⟩ := hg
          rw [← h, hT] at ho; cases ho
        refine List.nodup_cons.mpr ⟨fun hm => ?_, List.nodup_append.mpr ⟨(M.own rfl).2, List.nodup_cons.mpr ⟨fun hm => a3 (fpAt_sub hm), fpAt_nodup d3⟩, fun b hb' c hc hbc => ?_⟩⟩
        · rcases List.mem_append.mp hm with hm | hm
          · exact hTl hm
          · rcases List.mem_cons.mp hm with h | hm
            · exact hTa h
            · exact hT3 (fpAt_sub hm)
        · subst hbc
          rcases List.mem_cons.mp hc with rfl | hc
          · exact hal hb'
          · obtain ⟨q, hq, rfl⟩ := List.mem_map.mp hb'
            exact hdis q hq (fpAt_sub hc)
      · have hlt : gi < s.gens.size := by rw [hgg]; exact (Array.getElem?_eq_some_iff.mp hgs).1
        simp [hlt]
      · intro s'' hs
        exact hkap s'' hs
      · obtain ⟨o, nm, qn, ho, r⟩ := hg
        exact ⟨o, nm, qn, hfr _ _ a3 ho, r⟩
  · obtain ⟨hn, ⟨h₁, tk₁, rfl⟩, hfr⟩ := hp
    subst hn
    have hfr : ∀ b o, b ∉ fpAt it e L fin 0 → s.heap.get? b = some o → h₁.get? b = some o := hfr
    have hk : ∀ b o, h₁.get? b = some o → h'.get? b = some o := hk
    refine hP ((s.gens.setIfInBounds gi .running).setIfInBounds gi .finished) _ rfl (by rw [hgg]; exact (hb.set rfl).set rfl) ⟨?_, ?_, ?_, fun _ => M.own rfl⟩
    · obtain ⟨⟨hh', tk', rfl⟩, _⟩ := M
      exact ⟨h', tk₁, rfl⟩
    · exact fun b o e' => hk b o (hfr b o (fun hm => by rw [n3 b (fpAt_sub hm)] at e'; cases e') (M.keep b o e'))
    · intro q hq
      obtain ⟨o, ho, hP⟩ := M.has q hq
      exact ⟨o, hk _ _ (hfr _ _ (hdis q hq) ho), hP⟩
end
end Mine

namespace Mine

section
variable {prog : Program} {w : World} {A : Around} {E : Value → Shared → Prop} {s₀ s : Shared} {g : Array GenState} {ok : Bool} {led led' : Led} {env : Env} {mg mb : Str → Option Value}

/-- a generator made and not yet woken -/
def genRows (a : Addr) (gi : Nat) (L : Addr) (txt : Str) (t : Tok) : Led := [(a, genS gi), (L, nsS (look [("addr", .str txt t)]))]

theorem isGen_of {a : Addr} {gi : Nat} (h : ∃ o, s.heap.get? a = some o ∧ genS gi o) : s.heap.IsGen a gi :=
  let ⟨o, ho, nm, qn, h1, h2, h3⟩ := h; ⟨o, nm, qn, ho, h1, h2, h3⟩

theorem gFirst {a L af : Addr} {cd : Value} {gi : Nat} {txt : Str} {t : Tok} {Q : Option Value → Shared → Prop} (hh : A.handled = none) (B : Base mg mb s₀.heap) (hroom : A.depth < recursionLimit) (hsz : txt.cps.size ≤ 100)
    (M : Mm s₀ g true (led ++ genRows a gi L txt t) s) (hb : Bare g) (hgs : g[gi]? = some (.fresh (.func dIter.body (fenv dIter L af cd []))))
    (hY : ∀ it e m T p u x u' s', (escRest 0 false txt.cps.toList).length = m + 1 → (escRest 0 false txt.cps.toList)[0]? = some (p, x) →
      GAt prog w A s₀ a gi it e L (escFin false txt.cps.toList) (escRest 0 false txt.cps.toList) m ((T, tupS #[.int (p : Nat) u, .str x u']) :: led) s' → Q (some (.ref T)) s')
    (hP : ∀ g' s', (escRest 0 false txt.cps.toList).length = 0 → Bare g' → Mm s₀ g' true led s' → Q none s') :
    wpAny (model prog w) A (pyNext (.ref a)) Q E s := by
  have ha : (a, genS gi) ∈ led ++ genRows a gi L txt t := List.mem_append.mpr (.inr (.head _))
  have hL : (L, nsS (look [("addr", .str txt t)])) ∈ led ++ genRows a gi L txt t := List.mem_append.mpr (.inr (.tail _ (.head _)))
  obtain ⟨oa, hoa, hoa'⟩ := M.row ha
  obtain ⟨oL, hoL, hoL'⟩ := M.row hL
  have haN : a < s.heap.objs.size := Heap.lt_size hoa
  have hLN : L < s.heap.objs.size := Heap.lt_size hoL
  have hnd := (M.own rfl).2
  rw [List.map_append] at hnd
  obtain ⟨_, hnd2, hnd3⟩ := List.nodup_append.mp hnd
  have haL : a ≠ L := by
    intro h
    have : ([a, L] : List Addr).Nodup := hnd2
    rw [h] at this
    simp at this
  have old : ∀ b, s.heap.objs.size ≤ b → s₀.heap.get? b = none := fun b hb => M.old_none (by
    cases e : s.heap.get? b with
    | none => rfl
    | some o' => exact absurd (Heap.lt_size e) (Nat.not_lt.mpr hb))
  have n3 : ∀ b ∈ [s.heap.objs.size, s.heap.objs.size + 1, L], s₀.heap.get? b = none := fun b hb => by
    simp only [List.mem_cons, List.not_mem_nil, or_false] at hb
    rcases hb with rfl | rfl | rfl
    · exact old _ (Nat.le_refl _)
    · exact old _ (Nat.le_succ _)
    · exact (M.own rfl).1 _ hL
  have hled : ∀ p ∈ led, p.1 < s.heap.objs.size ∧ p.1 ≠ a ∧ p.1 ≠ L := fun p hp => by
    obtain ⟨o, ho, _⟩ := M.has p (List.mem_append.mpr (.inl hp))
    exact ⟨Heap.lt_size ho, hnd3 _ (List.mem_map_of_mem (f := (·.1)) hp) _ (.head _), hnd3 _ (List.mem_map_of_mem (f := (·.1)) hp) _ (.tail _ (.head _))⟩
  refine gCore (it := s.heap.objs.size) (e := s.heap.objs.size + 1) (L := L) (fin := escFin false txt.cps.toList) (its := escRest 0 false txt.cps.toList) (n := (escRest 0 false txt.cps.toList).length) hh B.nl hroom (M.sub (List.sublist_append_left ..)) hb (isGen_of ⟨oa, hoa, hoa'⟩) hgs ?_ n3 ?_ ((M.own rfl).1 _ ha) ?_ ?_ ?_ (fun m T p u x u' s' hm hi G => hY _ _ m T p u x u' s' hm (by rw [hm] at hi; simpa using hi) G) hP
  · simp only [List.nodup_cons, List.mem_cons, List.not_mem_nil, or_false, not_or, not_false_eq_true, List.nodup_nil, and_true]
    exact ⟨⟨Nat.ne_of_lt (Nat.lt_succ_self _), Nat.ne_of_gt hLN⟩, Nat.ne_of_gt (Nat.lt_succ_of_lt hLN)⟩
  · simp only [List.mem_cons, List.not_mem_nil, or_false, not_or]
    exact ⟨Nat.ne_of_lt haN, Nat.ne_of_lt (Nat.lt_succ_of_lt haN), haL⟩
  · intro hm
    obtain ⟨p, hp, hpa⟩ := List.mem_map.mp hm
    exact (hled p hp).2.1 hpa
  · intro p hp hm
    have := fpAt_sub hm
    simp only [List.mem_cons, List.not_mem_nil, or_false] at this
    obtain ⟨h1, h2, h3⟩ := hled p hp
    rcases this with h | h | h
    · exact Nat.ne_of_lt h1 h
    · exact Nat.ne_of_lt (Nat.lt_succ_of_lt h1) h
    · exact h3 h
  · refine ⟨rfl, segGen (A := A.in1) (mg := mg) (mb := mb) hh hsz s.heap.objs.size rfl ?_ ⟨oL, hoL, hoL'⟩⟩
    refine B.keeps fun b o e => ?_
    refine (hide_out _ _ _ fun hm => ?_).trans (M.keep b o e)
    rw [n3 b hm] at e; cases e

theorem gStep {a L it e : Addr} {gi n : Nat} {fin : Bool} {its : List (Nat × Str)} {Q : Option Value → Shared → Prop} (hh : A.handled = none) (nl : s₀.heap.NoLimit) (hroom : A.depth < recursionLimit)
    (G : GAt prog w A s₀ a gi it e L fin its n led s)
    (hY : ∀ m T p u x u' s', n = m + 1 → its[its.length - 1 - m]? = some (p, x) → GAt prog w A s₀ a gi it e L fin its m ((T, tupS #[.int (p : Nat) u, .str x u']) :: led) s' → Q (some (.ref T)) s')
    (hP : ∀ g' s', n = 0 → Bare g' → Mm s₀ g' true led s' → Q none s') :
    wpAny (model prog w) A (pyNext (.ref a)) Q E s := by
  obtain ⟨⟨g, hb, M, gs, hgs, hgo⟩, hg, d3, n3, a3⟩ := G
  have hnd := (M.own rfl).2
  rw [List.map_append, frz_adr] at hnd
  obtain ⟨_, hnd2, hnd3⟩ := List.nodup_append.mp hnd
  refine gCore hh nl hroom (M.sub (List.sublist_append_left ..)) hb hg hgs d3 n3 a3 ((M.own rfl).1 (a, _) (List.mem_append.mpr (.inr (.head _)))) (fun hm => hnd3 _ hm _ (.head _) rfl) (fun p hp hm => hnd3 _ (List.mem_map_of_mem (f := (·.1)) hp) _ (.tail _ hm) rfl) (hgo _ fun b _ o e => e) hY hP

theorem Mm.refrz {h : Heap} {fp : List Addr} (M : Mm s₀ g true (led ++ frz h fp) s) : Mm s₀ g true (led ++ frz s.heap fp) s := by
  refine ⟨M.same, M.keep, fun p hp => ?_, fun _ => ⟨fun p hp => ?_, ?_⟩⟩
  · rcases List.mem_append.mp hp with hp | hp
    · exact M.has p (List.mem_append.mpr (.inl hp))
    · obtain ⟨b, hb, rfl⟩ := List.mem_map.mp hp
      obtain ⟨o, ho, _⟩ := M.has (b, fun o => h.get? b = some o) (List.mem_append.mpr (.inr (List.mem_map.mpr ⟨b, hb, rfl⟩)))
      exact ⟨o, ho, ho⟩
  · rcases List.mem_append.mp hp with hp | hp
    · exact (M.own rfl).1 p (List.mem_append.mpr (.inl hp))
    · obtain ⟨b, hb, rfl⟩ := List.mem_map.mp hp
      exact (M.own rfl).1 (b, fun o => h.get? b = some o) (List.mem_append.mpr (.inr (List.mem_map.mpr ⟨b, hb, rfl⟩)))
  · have := (M.own rfl).2
    rw [List.map_append, frz_adr] at this ⊢
    exact this

theorem GAt.after {a L it e : Addr} {gi n : Nat} {fin : Bool} {its : List (Nat × Str)} {s' : Shared} {gs : GenState} (hg : s.heap.IsGen a gi) (d3 : [it, e, L].Nodup) (n3 : ∀ b ∈ [it, e, L], s₀.heap.get? b = none) (a3 : a ∉ [it, e, L])
    (hgs : g[gi]? = some gs) (hb : Bare g)
    (hgo : ∀ s'' : Shared, (∀ b ∈ fpAt it e L fin n, ∀ o, s.heap.get? b = some o → s''.heap.get? b = some o) → gs.Goes (model prog w) A.in1 (genR it e L fin) (genY it e L fin its) n (.send .none) s'')
    (M : Mm s₀ g true (led ++ frz s.heap (a :: fpAt it e L fin n)) s') : GAt prog w A s₀ a gi it e L fin its n led s' :=
  ⟨⟨g, hb, M.refrz, gs, hgs, fun s'' hs => hgo s'' fun b hb' o e => hs b hb' o (M.frozen b (.tail _ hb') o e)⟩,
   let ⟨o, nm, qn, ho, r⟩ := hg; ⟨o, nm, qn, M.frozen a (.head _) o ho, r⟩, d3, n3, a3⟩

theorem letOwnedGen {elts : List Expr} {k} {pos : Pos} {a : Addr} {gi : Nat} {v : Value} {Q : Unit → Shared → Prop} (hg : s.heap.IsGen a gi) (h : Q () s) :
    wpAny (model prog w) A (letOwnedTupleGo (.Tuple elts k pos) (.ref a) v) Q E s := by
  obtain ⟨o, nm, qn, ho, hc, hd, _⟩ := hg
  obtain ⟨c, d, dt, sl⟩ := o
  replace hc : c = .type "generator" := hc
  replace hd : dt = .fields #[.int gi 0, nm, qn] := hd
  subst hc hd
  unfold letOwnedTupleGo
  cases v with
  | ref T =>
    refine wpAny_bind (wpAny_load ho ?_)
    exact wpAny_pure h
  | _ => exact wpAny_pure h

theorem forG {x1 x2 : Str} {p1 p2 tp : Pos} {k} {body : List Stmt} {R : Result → Shared → Prop} {a L af : Addr} {cd : Value} {gi : Nat} {txt : Str} {t : Tok} (hh : A.handled = none) (B : Base mg mb s₀.heap) (hroom : A.depth < recursionLimit) (hsz : txt.cps.size ≤ 100)
    (M : Mm s₀ g true (led ++ genRows a gi L txt t) s) (hb : Bare g) (hgs : g[gi]? = some (.fresh (.func dIter.body (fenv dIter L af cd []))))
    (J : Nat → Led → Prop) (hJ : J 0 led)
    (turn : ∀ i p x u u' led fz s₁ g' E', (escRest 0 false txt.cps.toList)[i]? = some (p, x) → J i led → Bare g' → Mm s₀ g' true (led ++ fz) s₁ →
      wpAny (model prog w) A (storeName env x1 (.int (p : Nat) u)) (fun _ s₂ => wpAny (model prog w) A (storeName env x2 (.str x u')) (fun _ s₃ => wpAny (model prog w) A (execs body env) (fun f s₄ => match f with
        | .next | .cont => ∃ led', J (i + 1) led' ∧ Mm s₀ g' true (led' ++ fz) s₄
        | .brk => R (.ok .next) s₄
        | .ret v => R (.ok (.ret v)) s₄) E' s₃) E' s₂) E' s₁)
    (done : ∀ led g' s', J (escRest 0 false txt.cps.toList).length led → Bare g' → Mm s₀ g' true led s' → R (.ok .next) s') :
    codeAny (model prog w) A (.forLoop (.Tuple [.Name x1 p1, .Name x2 p2] k tp) (.ref a) body [] env) R s := by
  have post : ∀ (it e : Addr) (m j T p : Nat) (u : Tok) (x : Str) (u' : Tok) (led' : Led) (s' : Shared) (kk : Nat) (E' : Value → Shared → Prop), j + 1 + m = (escRest 0 false txt.cps.toList).length → (escRest 0 false txt.cps.toList)[j]? = some (p, x) → J j led' → m < kk →
      GAt prog w A s₀ a gi it e L (escFin false txt.cps.toList) (escRest 0 false txt.cps.toList) m ((T, tupS #[.int (p : Nat) u, .str x u']) :: led') s' →
      wpAny (model prog w) A (letOwnedTupleGo (.Tuple [.Name x1 p1, .Name x2 p2] k tp) (.ref a) (.ref T)) (fun _ s₁' =>
          wpAny (model prog w) A (assign (.Tuple [.Name x1 p1, .Name x2 p2] k tp) env (.ref T)) (fun _ s₂ => wpAny (model prog w) A (execs body env) (fun f s₃ => match f with
            | .next | .cont => ∃ m, m < kk ∧ ((m = (escRest 0 false txt.cps.toList).length + 1 ∧ s₃ = s) ∨ ∃ it e j led', j + m = (escRest 0 false txt.cps.toList).length ∧ J j led' ∧ GAt prog w A s₀ a gi it e L (escFin false txt.cps.toList) (escRest 0 false txt.cps.toList) m led' s₃)
            | .brk => R (.ok .next) s₃
            | .ret v => R (.ok (.ret v)) s₃) E' s₂) E' s₁') E' s' := by
    intro it e m j T p u x u' led' s' kk E' hjm hj hJ' hlt G
    obtain ⟨⟨g', hb', M', gs, hgs', hgo⟩, hg, d3, n3, a3⟩ := G
    refine letOwnedGen hg (asgTup2 hh M' fun s₁ M₁ => ?_)
    refine wpAny_mono (turn j p x u u' led' _ s₁ g' E' hj hJ' hb' M₁) (fun _ s₂ h₂ => wpAny_mono h₂ (fun _ s₃ h₃ => wpAny_mono h₃ (fun f s₄ h₄ => ?_) fun _ _ e => e) fun _ _ e => e) fun _ _ e => e
    have fin : (∃ led'', J (j + 1) led'' ∧ Mm s₀ g' true (led'' ++ frz s'.heap (a :: fpAt it e L (escFin false txt.cps.toList) m)) s₄) → ∃ m, m < kk ∧ ((m = (escRest 0 false txt.cps.toList).length + 1 ∧ s₄ = s) ∨ ∃ it e j led', j + m = (escRest 0 false txt.cps.toList).length ∧ J j led' ∧ GAt prog w A s₀ a gi it e L (escFin false txt.cps.toList) (escRest 0 false txt.cps.toList) m led' s₄) := by
      rintro ⟨led'', hJ'', M''⟩
      exact ⟨m, hlt, .inr ⟨it, e, j + 1, led'', hjm, hJ'', GAt.after hg d3 n3 a3 hgs' hb' hgo M''⟩⟩
    cases f with
    | next => exact fin h₄
    | cont => exact fin h₄
    | brk => exact h₄
    | ret v => exact h₄
  refine codeAny_forLoop_any (fun kk s' => (kk = (escRest 0 false txt.cps.toList).length + 1 ∧ s' = s) ∨ ∃ it e j led', j + kk = (escRest 0 false txt.cps.toList).length ∧ J j led' ∧ GAt prog w A s₀ a gi it e L (escFin false txt.cps.toList) (escRest 0 false txt.cps.toList) kk led' s')
    ?_ _ (.inl ⟨rfl, rfl⟩)
  rintro kk s' (⟨rfl, rfl⟩ | ⟨it, e, j, led', hjk, hJ', G⟩)
  · refine gFirst hh B hroom hsz M hb hgs (fun it e m T p u x u' s' hm hi G => ?_) (fun g' s' h0 hb' M' => wpAny_execs_nil (done led g' s' (by rw [h0]; exact hJ) hb' M'))
    exact post it e m 0 T p u x u' led s' _ _ (by omega) hi hJ (by omega) G
  · refine gStep hh B.nl hroom G (fun m T p u x u' s' hm hi G' => ?_) (fun g' s' h0 hb' M' => wpAny_execs_nil (done led' g' s' (by rw [← hjk, h0]; exact hJ') hb' M'))
    subst hm
    refine post it e m j T p u x u' led' s' _ _ (by omega) ?_ hJ' (by omega) G'
    rw [show (escRest 0 false txt.cps.toList).length - 1 - m = j by omega] at hi
    exact hi
end
end Mine

namespace Mine
local macro_rules | `(tactic| ktr_rel) => `(tactic| first | exact Put.head | exact Put.tail (by ktr_rel))

theorem Mm.perm {s₀ s : Shared} {g : Array GenState} {ok : Bool} {led led' : Led} (M : Mm s₀ g ok led s) (h : led.Perm led') : Mm s₀ g ok led' s :=
  ⟨M.same, M.keep, fun p hp => M.has p (h.mem_iff.mpr hp), fun hok => ⟨fun p hp => (M.own hok).1 p (h.mem_iff.mpr hp), ((h.map _).nodup_iff).mp (M.own hok).2⟩⟩

section
variable {prog : Program} {w : World} {A : Around} {E : Value → Shared → Prop} {s₀ s : Shared} {g : Array GenState} {led led' : Led} {env : Env} {mg mb : Str → Option Value}

/-- for pos, ch in _iter_escaped_chars(text) -/
theorem forEsc {x1 x2 : Str} {p1 p2 tp pos cp np : Pos} {k} {e : Expr} {body : List Stmt} {Q : Flow → Shared → Prop} (hA : AOk 1 A) (B : Base mg mb s₀.heap) (M : Mm s₀ g true led s) (hb : Bare g)
    (h : wpAny (model prog w) A (eval e env) (fun v s₁ => ∃ (txt : Str) (t : Tok) (led : Led), v = .str txt t ∧ txt.cps.size ≤ 100 ∧ Mm s₀ g true led s₁ ∧ ∃ J : Nat → Led → Prop, J 0 led ∧
      (∀ i p x u u' led fz s₁ g' E', (escRest 0 false txt.cps.toList)[i]? = some (p, x) → J i led → Bare g' → Mm s₀ g' true (led ++ fz) s₁ →
        wpAny (model prog w) A (storeName env x1 (.int (p : Nat) u)) (fun _ s₂ => wpAny (model prog w) A (storeName env x2 (.str x u')) (fun _ s₃ => wpAny (model prog w) A (execs body env) (fun f s₄ => match f with
          | .next | .cont => ∃ led', J (i + 1) led' ∧ Mm s₀ g' true (led' ++ fz) s₄
          | .brk => Q .next s₄
          | .ret v => Q (.ret v) s₄) E' s₃) E' s₂) E' s₁) ∧
      (∀ led g' s', J (escRest 0 false txt.cps.toList).length led → Bare g' → Mm s₀ g' true led s' → Q .next s')) E s)
    (ht : backTo cp (starEach [e] env) = [(false, eval e env)] := by rfl) (hs : ∀ x, foldedSetIterable (.Call (.Name "_iter_escaped_chars" np) [e] [] cp) env x = pure x := by intro _; rfl)
    (hk : env.scope.kind = .function := by rfl) (hl : env.kindOf "_iter_escaped_chars" = some .globalImplicit := by rfl) (hg : env.globals = mainGlobals := by rfl) :
    wpAny (model prog w) A (exec (.For (.Tuple [.Name x1 p1, .Name x2 p2] k tp) (.Call (.Name "_iter_escaped_chars" np) [e] [] cp) body [] pos) env) Q E s := by
  refine wpAny_For (callF1 B M (d := dIter) (by k_mem) rfl (fun aI => wpAny_mono h (fun v s₁ h₁ => ?_) fun _ _ e => e) ht hk hl hg) hs
  obtain ⟨txt, t, led, rfl, hsz, M, J, hJ, turn, done⟩ := h₁
  refine ⟨M.keep, fun F' => ?_⟩
  refine fnCallGen F' (B.keeps M.keep).nl (by have := hA.hd; omega) (binds := [("addr", .str txt t)]) (fun _ _ _ => rfl) (by decide) (by simp; rfl) (fun ag L cd s₂ N => ?_)
  have hgg := M.gens
  have M2 := (M.trans N (fun e => e)).perm (List.perm_append_comm (l₁ := [(ag, genS s₁.gens.size), (L, nsS (look [("addr", .str txt t)]))]) (l₂ := led))
  refine wpAny_pyIter_gen (isGen_of (M2.row (List.mem_append.mpr (.inr (.head _))))) ?_
  refine forG (cd := cd) (af := aI) hA.hh B (by have := hA.hd; omega) hsz M2 ?_ ?_ J hJ (fun i p x u u' led fz s₁ g' E' => turn i p x u u' led fz s₁ g' E') done
  · rw [hgg]; exact hb.push
  · exact Array.getElem?_push_size ..
end
end Mine

namespace Mine
local macro_rules | `(tactic| ktr_rel) => `(tactic| first | exact Put.head | exact Put.tail (by ktr_rel))

/-- what _check_parenthesis reckons over what the generator gives -/
def checkGo : Int → List (Nat × Str) → Bool
  | o, [] => decide (o = 0)
  | o, (_, x) :: r => if (x == ("(" : Str)) = true then checkGo (o + 1) r else if (x == (")" : Str)) = true then (if o - 1 < 0 then false else checkGo (o - 1) r) else checkGo o r

def stripStep (txt : Str) (st : Nat × Option Nat × List Str) (y : Nat × Str) : Nat × Option Nat × List Str :=
  if (y.2 == ("\"" : Str)) = true then match st.2.1 with
    | none => (st.1, some y.1, st.2.2)
    | some o => (y.1 + 1, none, if st.1 = o then st.2.2 else st.2.2 ++ [Txt.slice txt (some (st.1 : Int)) (some (o : Int))])
  else st
def stripSt (txt : Str) (i : Nat) : Nat × Option Nat × List Str := ((escRest 0 false txt.cps.toList).take i).foldl (stripStep txt) (0, none, [])
def stripOut (txt : Str) : Str :=
  if 34 ∈ txt.cps.toList then
    let st := stripSt txt (escRest 0 false txt.cps.toList).length
    Txt.join "" (if st.1 < txt.cps.size then st.2.2 ++ [Txt.slice txt (some (st.1 : Int)) none] else st.2.2)
  else txt
theorem stripSt_succ (txt : Str) {i : Nat} {y : Nat × Str} (h : (escRest 0 false txt.cps.toList)[i]? = some y) : stripSt txt (i + 1) = stripStep txt (stripSt txt i) y := by
  unfold stripSt
  rw [List.take_add_one, h, List.foldl_append]; rfl
theorem escRest_len : ∀ (r : List Nat) (i : Nat) (esc : Bool), (escRest i esc r).length ≤ r.length + 1
  | [], i, esc => by cases esc <;> simp [escRest]
  | c :: r, i, esc => by
    have h1 := escRest_len r (i + 1) false
    have h2 := escRest_len r (i + 1) true
    show (if esc then _ else if c = 92 then _ else _ : List (Nat × Str)).length ≤ _
    split
    · simpa using h1
    · split
      · simp only [List.length_cons]; omega
      · simpa using h1
theorem stripStep_parts (txt : Str) (st : Nat × Option Nat × List Str) (y : Nat × Str) (h : ∀ z ∈ st.2.2, z.length ≤ txt.length) : ∀ z ∈ (stripStep txt st y).2.2, z.length ≤ txt.length := by
  unfold stripStep
  split
  · split
    · exact h
    · rename_i o _
      show ∀ z ∈ (if st.1 = o then st.2.2 else _), _
      split
      · exact h
      · intro z hz
        rcases List.mem_append.mp hz with hz | hz
        · exact h z hz
        · rw [List.mem_singleton.mp hz]; exact Txt.slice_le _ _ _
  · exact h
theorem foldl_parts (txt : Str) : ∀ (l : List (Nat × Str)) (st : Nat × Option Nat × List Str), (∀ z ∈ st.2.2, z.length ≤ txt.length) → ∀ z ∈ (l.foldl (stripStep txt) st).2.2, z.length ≤ txt.length
  | [], _, h => h
  | y :: r, st, h => foldl_parts txt r _ (stripStep_parts txt st y h)
theorem stripSt_parts (txt : Str) (i : Nat) : ∀ z ∈ (stripSt txt i).2.2, z.length ≤ txt.length := foldl_parts txt _ _ (by simp)
def opv : Option Nat → Tok → Value
  | none, _ => .none
  | some o, u => .int (o : Nat) u

section
variable {prog : Program} {w : World} {A : Around} {E : Value → Shared → Prop} {s : Shared} {mg mb : Str → Option Value}
set_option maxHeartbeats 4000000

theorem joinE {e : Expr} {k : Nat} {cp apos pos : Pos} {env : Env} {s₀ : Shared} {g : Array GenState} {led : Led} {Q : Value → Shared → Prop} (M : Mm s₀ g true led s)
    (h : wpAny (model prog w) A (eval e env) (fun v s₁ => ∃ (D : Addr) (l : List (Str × Tok)) (led' : Led), v = .ref D ∧ Mm s₀ g true led' s₁ ∧ (D, listS (strValues l).toArray) ∈ led' ∧ JoinOk "" (l.map (·.1)) = true ∧ ∀ t s', Mm s₀ g true led' s' → Q (.str (Txt.join "" (l.map (·.1))) t) s') E
      { s with toks := s.toks + 1 })
    (hbase : attributeBase (.Constant (.str "") k cp) "join" env (eval (.Constant (.str "") k cp) env) = eval (.Constant (.str "") k cp) env := by rfl) (hs : starEach [e] env = [(false, eval e env)] := by rfl) (hline : (apos.endLine == pos.line) = true := by rfl) :
    wpAny (model prog w) A (eval (.Call (.Attribute (.Constant (.str "") k cp) "join" apos) [e] [] pos) env) Q E s := by
  refine Call_method1 hbase hs hline (Calls.Constant_str (SB.join (wpAny_mono h (fun v s₁ h₁ => ?_) fun _ _ e => e)))
  obtain ⟨D, l, led', rfl, M', hm, hok, hq⟩ := h₁
  exact ⟨D, l, rfl, (list_of M' hm).isList, _, rfl, hok, fun t' kk => hq t' _ M'.tok⟩

theorem strip_spec {a : Addr} {txt : Str} {t : Tok} {Q : Value → Shared → Prop} (B : Base mg mb s.heap) (hA : AOk 2 A) (F : FnAt dStrip a s.heap) (hsz : txt.cps.size ≤ 100) (hb : Bare s.gens)
    (h : ∀ g' t' s', Bare g' → Mm s g' true [] s' → Q (.str (stripOut txt) t') s') : wpAny (model prog w) A (call (.ref a) [.str txt t]) Q E s := by
  refine F.call B.nl (by have := hA.hd; omega) (binds := [("addr", .str txt t)]) (fun _ _ _ => rfl) (by decide) (by simp; rfl) (fun L cd s₁ M => ?_)
  have hz' : txt.length ≤ sizeLine := by show txt.cps.size ≤ _; rw [sizeLine_eq]; omega
  have hA1 : AOk 1 (A.deeper (fenv dStrip L a cd [])) := hA.deeper
  refine wpAny_execs_cons (wpAny_If (wpAny_isTrue_Compare1 (cStr M fun _ _ M => ldL M (by k_mem) rfl (PyProof.Rows.notIn_str (wpAny_truthy_bool ?_)))))
  have hfo : (!(Builtin.Str.occurrences txt "\"" 0 txt.length 1).isEmpty) = decide (34 ∈ txt.cps.toList) := StrLaws.found_one txt 34
  rw [hfo]
  by_cases hq : 34 ∉ txt.cps.toList
  · rw [decide_eq_false hq, Bool.not_false, if_pos rfl]
    refine wpAny_execs_cons (wpAny_Return_some (ldL M (by k_mem) rfl ?_))
    have := h s.gens t _ hb M.noRow
    rw [show stripOut txt = txt from if_neg hq] at this
    exact this
  have hq := Decidable.not_not.mp hq
  rw [decide_eq_true hq, if_neg (by decide)]
  refine wpAny_execs_nil ?_
  refine wpAny_execs_cons (wpAny_Assign_Name (cInt M fun u0 _ M => stL M (by ktr_rel) fun _ M => ?_))
  refine wpAny_execs_cons (wpAny_Assign_Name (Constant_none (stL M (by ktr_rel) fun _ M => ?_)))
  refine wpAny_execs_cons (wpAny_Assign_Name (Lst0 (newLst M fun D _ M => stL M (by ktr_rel) fun _ M => ?_)))
  refine wpAny_execs_cons (forEsc hA1 B M hb (ldL M (by k_mem) rfl ⟨txt, t, _, rfl, hsz, M, fun i led => i ≤ (escRest 0 false txt.cps.toList).length ∧ ∃ (st1 : Nat) (op : Option Nat) (parts : List Str) (l : List (Str × Tok)) (u1 u2 : Tok) (rest : List (Str × Value)), stripSt txt i = (st1, op, parts) ∧ l.map (·.1) = parts ∧ l.length ≤ i ∧
    led = [(D, listS (strValues l).toArray), (L, nsS (look (("addr", .str txt t) :: ("start", .int (st1 : Nat) u1) :: ("open_pos", opv op u2) :: ("result", .ref D) :: rest)))],
    ⟨Nat.zero_le _, 0, none, [], [], u0, 0, [], rfl, rfl, Nat.le_refl _, rfl⟩, ?turn, ?done⟩))
  case turn =>
    rintro i p x u u' led fz s₂ g' E' hi ⟨hle, st1, op, parts, l, u1, u2, rest, hst, hl, hlen, rfl⟩ hb' M
    have hlt := (List.getElem?_eq_some_iff.mp hi).1
    have hsucc := stripSt_succ txt hi
    rw [hst] at hsucc
    have hld : ∀ a b c d, look (put "ch" (.str x u') (put "pos" (.int (p : Nat) u) (a :: b :: c :: d :: rest))) "pos" = some (.int (p : Nat) u) := fun a b c d => by
      rw [look_put, if_neg (by decide), look_self]
    refine stL M (by ktr_rel) fun _ M => stL M (by ktr_rel) fun _ M => ?_
    refine wpAny_execs_cons (wpAny_If (wpAny_isTrue_Compare1 (ldL M (by k_mem) (look_self _ _ _) (cStr M fun _ _ M => PyProof.Rows.eq_str (wpAny_truthy_bool ?_)))))
    cases hx : (x == ("\"" : Str)) with
    | false =>
      rw [if_neg Bool.false_ne_true]
      refine wpAny_execs_nil (wpAny_execs_nil ⟨_, ⟨hlt, st1, op, parts, l, u1, u2, put "ch" (.str x u') (put "pos" (.int (p : Nat) u) rest), ?_, hl, Nat.le_succ_of_le hlen, rfl⟩, M⟩)
      rw [hsucc]; unfold stripStep; rw [hx, if_neg Bool.false_ne_true]
    | true =>
      rw [if_pos rfl]
      refine wpAny_execs_cons (wpAny_If (wpAny_isTrue_Compare1 (ldL M (by k_mem) rfl (Constant_none (is_none (wpAny_truthy_bool ?_))))))
      cases op with
      | none =>
        rw [show ((opv none u2 == Value.none) = true) from rfl, if_pos rfl]
        refine wpAny_execs_cons (wpAny_Assign_Name (ldL M (by k_mem) (hld _ _ _ _) (stL M (by ktr_rel) fun _ M => ?_)))
        refine wpAny_execs_nil (wpAny_execs_nil (wpAny_execs_nil ⟨_, ⟨hlt, st1, some p, parts, l, u1, u, put "ch" (.str x u') (put "pos" (.int (p : Nat) u) rest), ?_, hl, Nat.le_succ_of_le hlen, rfl⟩, M⟩))
        rw [hsucc]; unfold stripStep; rw [hx, if_pos rfl]
      | some o =>
        rw [show ((opv (some o) u2 == Value.none) = false) from rfl, if_neg Bool.false_ne_true]
        refine wpAny_execs_cons (wpAny_If (wpAny_isTrue_Compare1 (ldL M (by k_mem) rfl (ldL M (by k_mem) rfl (P.ne_int (wpAny_truthy_bool ?_))))))
        have hlz : (strValues l).toArray.size ≤ sizeLine := by
          have := escRest_len txt.cps.toList 0 false
          have h1 : txt.cps.toList.length = txt.cps.size := Array.length_toList
          rw [List.size_toArray, strValues, List.length_map, sizeLine_eq]; omega
        by_cases hso : st1 = o
        · subst hso
          rw [show ((st1 : Int) != (st1 : Int)) = false by simp, if_neg Bool.false_ne_true]
          refine wpAny_execs_nil ?_
          refine wpAny_execs_cons (wpAny_Assign_Name (wpAny_BinOp (ldL M (by k_mem) (hld _ _ _ _) (cInt M fun _ _ M => addI M fun u3 _ M => stL M (by ktr_rel) fun _ M => ?_))))
          refine wpAny_execs_cons (wpAny_Assign_Name (Constant_none (stL M (by ktr_rel) fun _ M => ?_)))
          refine wpAny_execs_nil (wpAny_execs_nil (wpAny_execs_nil ⟨_, ⟨hlt, p + 1, none, parts, l, u3, u, put "ch" (.str x u') (put "pos" (.int (p : Nat) u) rest), ?_, hl, Nat.le_succ_of_le hlen, rfl⟩, M⟩))
          rw [hsucc]; unfold stripStep; rw [hx, if_pos rfl]; show (p + 1, none, (if st1 = st1 then parts else _)) = _; rw [if_pos rfl]
        · rw [show ((st1 : Int) != (o : Int)) = true by simp; omega, if_pos rfl]
          refine wpAny_execs_cons (wpAny_Expr (wpAny_Call_append rfl rfl rfl rfl (ldL M (by k_mem) rfl ⟨D, _, rfl, list_of M (by k_mem), ?_⟩)))
          refine Subscript_ (ldL M (by k_mem) rfl (sliceE (ldL M (by k_mem) rfl (ldL M (by k_mem) rfl (slcS M (.int _ _) hz' fun u4 _ M => appendM M (by ktr_rel) hlz fun _ M => wpAny_execs_nil ?_)))))
          refine wpAny_execs_cons (wpAny_Assign_Name (wpAny_BinOp (ldL M (by k_mem) (hld _ _ _ _) (cInt M fun _ _ M => addI M fun u3 _ M => stL M (by ktr_rel) fun _ M => ?_))))
          refine wpAny_execs_cons (wpAny_Assign_Name (Constant_none (stL M (by ktr_rel) fun _ M => ?_)))
          rw [List.push_toArray, show strValues l ++ [Value.str (Txt.slice txt (some (st1 : Int)) (some (o : Int))) u4] = strValues (l ++ [(Txt.slice txt (some (st1 : Int)) (some (o : Int)), u4)]) by rw [strValues, strValues, List.map_append]; rfl] at M
          refine wpAny_execs_nil (wpAny_execs_nil (wpAny_execs_nil ⟨_, ⟨hlt, p + 1, none, parts ++ [Txt.slice txt (some (st1 : Int)) (some (o : Int))], l ++ [(Txt.slice txt (some (st1 : Int)) (some (o : Int)), u4)], u3, u, put "ch" (.str x u') (put "pos" (.int (p : Nat) u) rest), ?_, ?_, ?_, rfl⟩, M⟩))
          · rw [hsucc]; unfold stripStep; rw [hx, if_pos rfl]; show (p + 1, none, (if st1 = o then parts else _)) = _; rw [if_neg hso]
          · rw [List.map_append, hl]; rfl
          · rw [List.length_append]; exact Nat.succ_le_succ hlen
  case done =>
    rintro led g' s₂ ⟨hle, st1, op, parts, l, u1, u2, rest, hst, hl, hlen, rfl⟩ hb' M
    have hso : stripOut txt = Txt.join "" (if (stripSt txt (escRest 0 false txt.cps.toList).length).1 < txt.cps.size then (stripSt txt (escRest 0 false txt.cps.toList).length).2.2 ++ [Txt.slice txt (some ((stripSt txt (escRest 0 false txt.cps.toList).length).1 : Int)) none] else (stripSt txt (escRest 0 false txt.cps.toList).length).2.2) := if_pos hq
    have hpl := stripSt_parts txt (escRest 0 false txt.cps.toList).length
    rw [hst] at hpl hso
    have hlb : l.length ≤ 101 := by
      have := escRest_len txt.cps.toList 0 false
      have h1 : txt.cps.toList.length = txt.cps.size := Array.length_toList
      omega
    have hlz : (strValues l).toArray.size ≤ sizeLine := by
      rw [List.size_toArray, strValues, List.length_map, sizeLine_eq]; omega
    have jok : ∀ ll : List Str, ll.length ≤ 102 → (∀ y ∈ ll, y.length ≤ 100) → JoinOk "" ll = true := fun ll h1 h2 => by
      unfold JoinOk
      rw [Bool.not_eq_true', StrLaws.joinFits h2]
      have : (("" : Str)).length = 0 := rfl
      rw [this]; omega
    refine wpAny_execs_cons (wpAny_If (wpAny_isTrue_Compare1 (ldL M (by k_mem) rfl (callB1 B M (by k_mem) (ldL M (by k_mem) rfl (lenS M hz' fun _ _ M => P.lt_int (wpAny_truthy_bool ?_)))))))
    have hpl : ∀ z ∈ parts, z.length ≤ txt.length := hpl
    have hso : stripOut txt = Txt.join "" (if st1 < txt.cps.size then parts ++ [Txt.slice txt (some (st1 : Int)) none] else parts) := hso
    have hlt' : ((st1 : Int) < (txt.length : Int)) ↔ st1 < txt.cps.size := by show ((st1 : Int) < ((txt.cps.size : Nat) : Int)) ↔ _; omega
    by_cases hs : st1 < txt.cps.size
    · rw [decide_eq_true (hlt'.mpr hs), if_pos rfl]
      rw [if_pos hs] at hso
      refine wpAny_execs_cons (wpAny_Expr (wpAny_Call_append rfl rfl rfl rfl (ldL M (by k_mem) rfl ⟨D, _, rfl, list_of M (by k_mem), ?_⟩)))
      refine Subscript_ (ldL M (by k_mem) rfl (sliceE (ldL M (by k_mem) rfl (wpAny_pure (slcS M .none hz' fun u4 _ M => appendM M (by ktr_rel) hlz fun _ M => wpAny_execs_nil ?_)))))
      rw [List.push_toArray, show strValues l ++ [Value.str (Txt.slice txt (some (st1 : Int)) none) u4] = strValues (l ++ [(Txt.slice txt (some (st1 : Int)) none, u4)]) by rw [strValues, strValues, List.map_append]; rfl] at M
      refine wpAny_execs_cons (wpAny_Return_some (joinE M (ldL M.tok (by k_mem) rfl ⟨D, l ++ [(Txt.slice txt (some (st1 : Int)) none, u4)], _, rfl, M.tok, ?_, ?_, fun t' s' M => ?_⟩)))
      · exact .head _
      · rw [List.map_append, hl]
        refine jok _ ?_ fun y hy => ?_
        · rw [← hl, List.length_append, List.length_map]; simp; omega
        · rcases List.mem_append.mp hy with hy | hy
          · exact Nat.le_trans (hpl y hy) hsz
          · obtain rfl := List.mem_singleton.mp hy
            exact Nat.le_trans (Txt.slice_le _ _ _) hsz
      · have := h g' t' s' hb' M.noRow
        rw [hso] at this
        rw [List.map_append, hl]
        exact this
    · rw [decide_eq_false (fun e => hs (hlt'.mp e)), if_neg Bool.false_ne_true]
      rw [if_neg hs] at hso
      refine wpAny_execs_nil ?_
      refine wpAny_execs_cons (wpAny_Return_some (joinE M (ldL M.tok (by k_mem) rfl ⟨D, l, _, rfl, M.tok, by k_mem, ?_, fun t' s' M => ?_⟩)))
      · rw [hl]
        refine jok _ ?_ fun y hy => Nat.le_trans (hpl y hy) hsz
        rw [← hl, List.length_map]; omega
      · have := h g' t' s' hb' M.noRow
        rw [hso] at this
        rw [hl]
        exact this
end
end Mine

namespace Mine
local macro_rules | `(tactic| ktr_rel) => `(tactic| first | exact Put.head | exact Put.tail (by ktr_rel))

theorem checkGo_drop {E : List (Nat × Str)} {i p : Nat} {x : Str} {o : Int} (h : E[i]? = some (p, x)) : checkGo o (E.drop i) = if (x == ("(" : Str)) = true then checkGo (o + 1) (E.drop (i + 1)) else if (x == (")" : Str)) = true then (if o - 1 < 0 then false else checkGo (o - 1) (E.drop (i + 1))) else checkGo o (E.drop (i + 1)) := by
  obtain ⟨hi, e⟩ := List.getElem?_eq_some_iff.mp h
  rw [List.drop_eq_getElem_cons hi, e]; rfl

section
variable {prog : Program} {w : World} {A : Around} {E : Value → Shared → Prop} {s : Shared} {mg mb : Str → Option Value}
set_option maxHeartbeats 4000000

theorem check_spec {a : Addr} {txt : Str} {t : Tok} {Q : Value → Shared → Prop} (B : Base mg mb s.heap) (hA : AOk 3 A) (F : FnAt dCheck a s.heap) (hsz : txt.cps.size ≤ 100) (hsz2 : (stripOut txt).cps.size ≤ 100) (hb : Bare s.gens)
    (h : ∀ g' s', Bare g' → Mm s g' true [] s' → Q (.bool (checkGo 0 (escRest 0 false (stripOut txt).cps.toList))) s') : wpAny (model prog w) A (call (.ref a) [.str txt t]) Q E s := by
  refine F.call B.nl (by have := hA.hd; omega) (binds := [("addr", .str txt t)]) (fun _ _ _ => rfl) (by decide) (by simp; rfl) (fun L cd s₁ M => ?_)
  have hA2 : AOk 2 (A.deeper (fenv dCheck L a cd [])) := hA.deeper
  have hA1 := hA2.less (m := 1) (by omega)
  refine wpAny_execs_cons (wpAny_Assign_Name (callF1 B M (d := dStrip) (by k_mem) rfl (fun aS => ldL M (by k_mem) rfl ⟨M.keep, fun F' => ?_⟩)))
  refine strip_spec (B.keeps M.keep) hA2 F' hsz (by rw [M.gens]; exact hb) (fun g₂ t₂ s₂ hb₂ N => ?_)
  have M := M.trans N (fun e => e)
  refine stL M (by ktr_rel) fun _ M => ?_
  generalize stripOut txt = txt2 at hsz2 M h
  refine wpAny_execs_cons (wpAny_Assign_Name (cInt M fun u0 _ M => stL M (by ktr_rel) fun _ M => ?_))
  refine wpAny_execs_cons (forEsc hA1 B M hb₂ (ldL M (by k_mem) rfl ⟨txt2, t₂, _, rfl, hsz2, M, fun i led => ∃ (o : Int) (u1 : Tok) (rest : List (Str × Value)), checkGo 0 (escRest 0 false txt2.cps.toList) = checkGo o ((escRest 0 false txt2.cps.toList).drop i) ∧
    led = [(L, nsS (look (("addr", .str txt2 t₂) :: ("opens", .int o u1) :: rest)))], ⟨0, u0, [], rfl, rfl⟩, ?turn, ?done⟩))
  case turn =>
    rintro i p x u u' led fz s₂ g' E' hi ⟨o, u1, rest, hgo, rfl⟩ hb' M
    rw [checkGo_drop hi] at hgo
    refine stL M (by ktr_rel) fun _ M => stL M (by ktr_rel) fun _ M => ?_
    refine wpAny_execs_cons (wpAny_If (wpAny_isTrue_Compare1 (ldL M (by k_mem) (look_self _ _ _) (cStr M fun _ _ M => PyProof.Rows.eq_str (wpAny_truthy_bool ?_)))))
    cases hx : (x == ("(" : Str)) with
    | true =>
      rw [if_pos rfl]
      rw [hx, if_pos rfl] at hgo
      refine wpAny_execs_cons (wpAny_AugAssign_Name (ldL' M (by k_mem) rfl (cInt M fun _ _ M => P.iadd_int (stL M.tok (by ktr_rel) fun _ M => ?_))))
      exact wpAny_execs_nil (wpAny_execs_nil ⟨_, ⟨o + 1, _, put "ch" (.str x u') (put "pos" (.int (p : Nat) u) rest), hgo, rfl⟩, M⟩)
    | false =>
      rw [if_neg Bool.false_ne_true]
      rw [hx, if_neg Bool.false_ne_true] at hgo
      refine wpAny_execs_cons (wpAny_If (wpAny_isTrue_Compare1 (ldL M (by k_mem) (look_self _ _ _) (cStr M fun _ _ M => PyProof.Rows.eq_str (wpAny_truthy_bool ?_)))))
      cases hy : (x == (")" : Str)) with
      | false =>
        rw [if_neg Bool.false_ne_true]
        rw [hy, if_neg Bool.false_ne_true] at hgo
        exact wpAny_execs_nil (wpAny_execs_nil (wpAny_execs_nil ⟨_, ⟨o, u1, put "ch" (.str x u') (put "pos" (.int (p : Nat) u) rest), hgo, rfl⟩, M⟩))
      | true =>
        rw [if_pos rfl]
        rw [hy, if_pos rfl] at hgo
        refine wpAny_execs_cons (wpAny_AugAssign_Name (ldL' M (by k_mem) rfl (cInt M fun _ _ M => P.isub_int (stL M.tok (by ktr_rel) fun _ M => ?_))))
        refine wpAny_execs_cons (wpAny_If (wpAny_isTrue_Compare1 (ldL M (by k_mem) rfl (cInt M fun _ _ M => P.lt_int (wpAny_truthy_bool ?_)))))
        by_cases ho : o - 1 < 0
        · rw [decide_eq_true ho, if_pos rfl]
          rw [if_pos ho] at hgo
          refine wpAny_execs_cons (wpAny_Return_some (Constant_bool ?_))
          have := h g' _ hb' M.noRow
          rw [hgo] at this
          exact this
        · rw [decide_eq_false ho, if_neg Bool.false_ne_true]
          rw [if_neg ho] at hgo
          exact wpAny_execs_nil (wpAny_execs_nil (wpAny_execs_nil (wpAny_execs_nil ⟨_, ⟨o - 1, _, put "ch" (.str x u') (put "pos" (.int (p : Nat) u) rest), hgo, rfl⟩, M⟩)))
  case done =>
    rintro led g' s₂ ⟨o, u1, rest, hgo, rfl⟩ hb' M
    refine wpAny_execs_cons (wpAny_Return_some (wpAny_Compare1 (ldL M (by k_mem) rfl (cInt M fun _ _ M => P.eq_int ?_))))
    have := h g' _ hb' M.noRow
    rw [hgo, List.drop_length] at this
    have e : (o == 0) = decide (o = 0) := by by_cases h0 : o = 0 <;> simp [h0]
    rw [e]
    exact this
end
end Mine

namespace Mine

def lstX (acc : Array Value) : Slot := fun o => ∃ c, o = { cls := .type "list", dict := none, data := .seq acc c, slots := #[] }
/-- a list of pairs (int, text), its pairs' rows apart -/
def TupsOf (its : Array Value) (rows : Led) (E : List (Nat × Str)) : Prop :=
  its.size = E.length ∧ ∀ (j p : Nat) (x : Str), E[j]? = some (p, x) → ∃ T u u', its[j]? = some (.ref T) ∧ (T, tupS #[.int (p : Nat) u, .str x u']) ∈ rows
theorem TupsOf.nil : TupsOf #[] [] [] := ⟨rfl, fun j p x h => by simp at h⟩
theorem TupsOf.push {its : Array Value} {rows : Led} {E : List (Nat × Str)} {T : Addr} {p : Nat} {x : Str} {u u' : Tok} (h : TupsOf its rows E) : TupsOf (its.push (.ref T)) ((T, tupS #[.int (p : Nat) u, .str x u']) :: rows) (E ++ [(p, x)]) := by
  refine ⟨by rw [Array.size_push, h.1, List.length_append, List.length_singleton], fun j q y hj => ?_⟩
  by_cases e : j = E.length
  · subst e
    rw [List.getElem?_append_right (Nat.le_refl _), Nat.sub_self] at hj
    have hj : some (p, x) = some (q, y) := hj
    cases hj
    exact ⟨T, u, u', by rw [Array.getElem?_push, h.1, if_pos rfl], .head _⟩
  · have hlt : j < E.length := by
      have := (List.getElem?_eq_some_iff.mp hj).1
      rw [List.length_append, List.length_singleton] at this
      omega
    rw [List.getElem?_append_left hlt] at hj
    obtain ⟨T', v, v', h1, h2⟩ := h.2 j q y hj
    exact ⟨T', v, v', by rw [Array.getElem?_push, h.1, if_neg e]; exact h1, .tail _ h2⟩

section
variable {prog : Program} {w : World} {A : Around} {E : Value → Shared → Prop} {s₀ s : Shared} {g : Array GenState} {led led' : Led} {env : Env} {mg mb : Str → Option Value}
set_option maxHeartbeats 4000000

theorem extPush {T S a it e L : Addr} {gi m : Nat} {fin : Bool} {its : List (Nat × Str)} {acc : Array Value} {p : Nat} {x : Str} {u u' : Tok} {rows : Led} {R : Result → Shared → Prop} {res : Value} (hz : acc.size ≤ 200)
    (G : GAt prog w A.in1 s₀ a gi it e L fin its m ((T, tupS #[.int (p : Nat) u, .str x u']) :: (S, lstX acc) :: (rows ++ led)) s)
    (ih : ∀ s', GAt prog w A.in1 s₀ a gi it e L fin its m ((S, lstX (acc.push (.ref T))) :: (((T, tupS #[.int (p : Nat) u, .str x u']) :: rows) ++ led)) s' → codeAny (model prog w) A (.builtin "list.extend.loop" ⟨[.ref S, .ref a, res], []⟩) R s') :
    wpAny (model prog w) A.in1 (do updateSeq S (·.push (.ref T)); again (.builtin "list.extend.loop" ⟨[.ref S, .ref a, res], []⟩))
      (fun fin s' => match fin with | .done f => R (.ok f) s' | .again c' => c'.quiet = true ∧ codeAny (model prog w) A c' R s') (fun e s' => R (.error e) s') s := by
  obtain ⟨⟨g', hb', M', gs, hgs', hgo⟩, hg, d3, n3, a3⟩ := G
  obtain ⟨oS, hoS, c, rfl⟩ := M'.row (.tail _ (.head _))
  refine wpAny_bind (wpAny_updateSeq hoS rfl (wpAny_pure ⟨plainId_quiet F.plain_extend_loop _, ih _ ?_⟩) (by rw [sizeLine_eq]; omega) (by show (acc.push (.ref T)).size ≤ sizeLine + 1; rw [Array.size_push, sizeLine_eq]; omega))
  have M2 := M'.put (tk := s.toks) (P' := lstX (acc.push (.ref T))) (.tail .head) (h' := s.heap.update S (Obj.mapSeq (·.push (.ref T)))) (fun b o hb e => (Heap.get?_update_other _ _ (Ne.symm hb)).trans e) (Heap.get?_update_self _ hoS rfl) ⟨_, rfl⟩
  exact GAt.after hg d3 n3 a3 hgs' hb' hgo (M2.perm (.swap ..))

theorem extLoop {S a L it e : Addr} {gi : Nat} {fin : Bool} {its : List (Nat × Str)} {R : Result → Shared → Prop} {res : Value} (hh : A.handled = none) (nl : s₀.heap.NoLimit) (hroom : A.in1.depth < recursionLimit) (hN : its.length ≤ 200)
    (done : ∀ acc rows g' s', TupsOf acc rows its → Bare g' → Mm s₀ g' true ((S, lstX acc) :: (rows ++ led)) s' → R (.ok (.ret res)) s') :
    ∀ (n j : Nat) (acc : Array Value) (rows : Led) (s : Shared), j + n = its.length → TupsOf acc rows (its.take j) → GAt prog w A.in1 s₀ a gi it e L fin its n ((S, lstX acc) :: (rows ++ led)) s →
      codeAny (model prog w) A (.builtin "list.extend.loop" ⟨[.ref S, .ref a, res], []⟩) R s := by
  intro n
  induction n with
  | zero =>
    intro j acc rows s hj hT G
    refine codeAny_builtin F.entry_extend_loop ?_
    rw [Around.under_plainId F.plain_extend_loop _]
    show wpAny _ A.in1 (pyNext (.ref a) >>= _) _ _ s
    refine wpAny_bind (gStep (A := A.in1) hh nl hroom G (fun m T p u x u' s' hm hi G' => absurd hm (Nat.succ_ne_zero m).symm) (fun g' s' h0 hb' M' => ?_))
    refine wpAny_pure (done acc rows g' s' ?_ hb' M')
    rwa [show its.take j = its by rw [show j = its.length by omega, List.take_length]] at hT
  | succ n ih =>
    intro j acc rows s hj hT G
    refine codeAny_builtin F.entry_extend_loop ?_
    rw [Around.under_plainId F.plain_extend_loop _]
    show wpAny _ A.in1 (pyNext (.ref a) >>= _) _ _ s
    refine wpAny_bind (gStep (A := A.in1) hh nl hroom G (fun m T p u x u' s' hm hi G' => ?_) (fun g' s' h0 hb' M' => absurd h0 (Nat.succ_ne_zero n)))
    have hm : n = m := Nat.succ.inj hm
    subst hm
    rw [show its.length - 1 - n = j by omega] at hi
    have hacc : acc.size ≤ 200 := by rw [hT.1, List.length_take]; omega
    refine extPush hacc G' fun s' G2 => ih (j + 1) _ _ _ (by omega) ?_ G2
    rw [List.take_add_one, hi]
    exact hT.push

theorem listG {a L af : Addr} {cd : Value} {gi : Nat} {txt : Str} {t : Tok} {Q : Value → Shared → Prop} (hA : AOk 3 A) (B : Base mg mb s₀.heap) (hsz : txt.cps.size ≤ 100)
    (M : Mm s₀ g true (led ++ genRows a gi L txt t) s) (hb : Bare g) (hgs : g[gi]? = some (.fresh (.func dIter.body (fenv dIter L af cd []))))
    (h : ∀ D acc rows g' s', TupsOf acc rows (escRest 0 false txt.cps.toList) → Bare g' → Mm s₀ g' true ((D, listS acc) :: (rows ++ led)) s' → Q (.ref D) s') :
    wpAny (model prog w) A (call (.type "list") [.ref a]) Q E s := by
  have hN : (escRest 0 false txt.cps.toList).length ≤ 200 := by
    have := escRest_len txt.cps.toList 0 false
    have h1 : txt.cps.toList.length = txt.cps.size := Array.length_toList
    omega
  have ha : (a, genS gi) ∈ led ++ genRows a gi L txt t := List.mem_append.mpr (.inr (.head _))
  refine callType_codes (Q₁ := fun obj s₁ => obj = .ref s.heap.objs.size ∧ s₁ = { s with heap := s.heap.push { cls := .type "list", data := .seq #[] } }) F.called_list (F.typeCall_list_1 _) F.entry_list_init
    (code_list_new _ ⟨rfl, rfl⟩) fun obj s₁ h₁ => ?_
  obtain ⟨rfl, rfl⟩ := h₁
  have hS : (s.heap.push { cls := .type "list", data := .seq #[] }).get? s.heap.objs.size = some { cls := .type "list", data := .seq #[] } := Heap.get?_push_size _ rfl
  have M1 := M.alloc (tk := s.toks) (o := { cls := .type "list", data := .seq #[] }) (P := lstX #[]) ⟨0, rfl⟩ rfl
  refine ⟨⟨_, hS, rfl⟩, F.args_list_init_2 _ _, ?_⟩
  generalize hSS : s.heap.objs.size = S at hS M1 ⊢
  generalize hs1 : ({ s with heap := s.heap.push { cls := .type "list", data := .seq #[] } } : Shared) = s₁ at hS M1 ⊢
  have hS : s₁.heap.get? S = some { cls := .type "list", data := .seq #[] } := by rw [← hs1]; exact hS
  clear hs1
  show wpAny _ A.in1.in1 (do let old ← Builtin.List.listItems (.ref S); Builtin.List.listUpdate (.ref S) (fun _ => #[]); letGo old.toList.reverse; Builtin.List.listExtendWith (.ref S) (.ref a) .none) _ _ s₁
  refine wpAny_bind ?_
  unfold Builtin.List.listItems
  refine wpAny_bind (wpAny_seqItems hS rfl (wpAny_pure ?_))
  show wpAny _ A.in1.in1 (updateSeq S (fun _ => #[]) >>= fun _ => letGo (#[] : Array Value).toList.reverse >>= fun _ => Builtin.List.listExtendWith (.ref S) (.ref a) .none) _ _ s₁
  refine wpAny_bind (wpAny_updateSeq hS rfl ?_)
  have hS₂ := Heap.get?_update_self (Obj.mapSeq (fun _ => (#[] : Array Value))) hS rfl
  have M2 := M1.put (tk := s₁.toks) (P' := lstX #[]) .head (h' := s₁.heap.update S (Obj.mapSeq (fun _ => (#[] : Array Value)))) (fun b o hb e => (Heap.get?_update_other _ _ (Ne.symm hb)).trans e) hS₂ ⟨_, rfl⟩
  refine wpAny_bind (wpAny_letGo ?_)
  generalize hs2 : ({ s₁ with heap := s₁.heap.update S (Obj.mapSeq (fun _ => (#[] : Array Value))) } : Shared) = s₂ at hS₂ M2 ⊢
  have hS₂ : s₂.heap.get? S = some (Obj.mapSeq (fun _ => (#[] : Array Value)) { cls := .type "list", data := .seq #[] }) := by rw [← hs2]; exact hS₂
  clear hs2
  have hga := M2.row (.tail _ ha)
  have hgt : s₂.TypeIs (.ref a) "generator" := (isGen_of hga).typeIs
  have hSa : S ≠ a := fun e => by
    have := (M2.own rfl).2
    rw [List.map_cons, List.nodup_cons] at this
    have h5 : a ∈ (led ++ genRows a gi L txt t).map (·.1) := List.mem_map_of_mem (f := (·.1)) ha
    rw [← e] at h5
    exact this.1 (by rw [e] at h5 ⊢; exact h5)
  unfold Builtin.List.listExtendWith
  refine wpAny_bind (wpAny_typeOf hgt ?_)
  have h1 : Builtin.List.listSameRef (.ref S) (.ref a) = false := by simp [Builtin.List.listSameRef, hSa]
  have h2 : (Value.type "generator" == Value.type "list") = false := by decide
  have h3 : (Value.type "generator" == Value.type "tuple") = false := by decide
  simp only [h1, h2, h3, Bool.or_false, Bool.false_eq_true, if_false]
  refine wpAny_bind (wpAny_pyIter_gen (isGen_of hga) ?_)
  refine wpAny_bind (wpAny_holding ?_)
  unfold Builtin.List.listLengthHint
  refine wpAny_bind (wpAny_specialOf hgt F.gen_no_len ?_)
  show wpAny _ A.in1.in1 (specialOf (Value.ref a) (Str.ofString "__length_hint__") >>= _) _ _ _
  refine wpAny_bind (wpAny_specialOf hgt F.gen_no_hint ?_)
  refine wpAny_pure ?_
  show wpAny _ A.in1.in1 (rule "list.extend.makes-room" >>= fun _ => Builtin.List.listTouch (.ref S) >>= fun _ =>
    again (.builtin "list.extend.loop" ⟨[.ref S, .ref a, .none], []⟩)) _ _ _
  refine wpAny_bind (wpAny_rule ?_)
  refine wpAny_bind ?_
  show wpAny _ A.in1.in1 (updateSeq S (·.push .none) >>= fun _ => updateSeq S (·.pop)) _ _ _
  refine wpAny_bind (wpAny_updateSeq hS₂ rfl ?_)
  have hS₃ := Heap.get?_update_self (Obj.mapSeq (·.push Value.none)) hS₂ rfl
  refine wpAny_updateSeq (hz := by seq_fits) hS₃ rfl ?_
  have hS₄ := Heap.get?_update_self (Obj.mapSeq (·.pop)) hS₃ rfl
  have M3 := M2.put (tk := s₂.toks) (P' := lstX #[]) .head (h' := (s₂.heap.update S (Obj.mapSeq (·.push Value.none))).update S (Obj.mapSeq (·.pop))) (fun b o hb e => (Heap.get?_update_other _ _ (Ne.symm hb)).trans ((Heap.get?_update_other _ _ (Ne.symm hb)).trans e)) hS₄ ⟨_, rfl⟩
  refine wpAny_pure ⟨plainId_quiet F.plain_extend_loop _, ?_⟩
  have done : ∀ acc rows g' s', TupsOf acc rows (escRest 0 false txt.cps.toList) → Bare g' → Mm s₀ g' true ((S, lstX acc) :: (rows ++ led)) s' → (fun r s₂ => r = Value.none ∧ Q (.ref S) s₂) Value.none s' := fun acc rows g' s' hT hb' M' =>
    ⟨rfl, h S acc rows g' s' hT hb' ⟨M'.same, M'.keep, fun p hp => by
      rcases List.mem_cons.mp hp with rfl | hp
      · obtain ⟨o, ho, c, rfl⟩ := M'.row (.head _)
        exact ⟨_, ho, rfl, rfl, c, rfl⟩
      · exact M'.has p (.tail _ hp), fun hok => ⟨fun p hp => by
          rcases List.mem_cons.mp hp with rfl | hp
          · exact (M'.own hok).1 (S, lstX acc) (.head _)
          · exact (M'.own hok).1 p (.tail _ hp), (M'.own hok).2⟩⟩⟩
  refine codeAny_builtin F.entry_extend_loop ?_
  rw [Around.under_plainId F.plain_extend_loop _]
  show wpAny _ A.in1.in1 (pyNext (.ref a) >>= _) _ _ _
  refine wpAny_bind (gFirst (A := A.in1.in1) (led := (S, lstX #[]) :: led) hA.hh B (by have := hA.hd; show A.depth < _; omega) hsz M3 hb hgs (fun it e m T p u x u' s' hm hi G' => ?_) (fun g' s' h0 hb' M' => ?_))
  · refine extPush (A := A.in1) (rows := []) (by simp) G' fun s' G2 => ?_
    refine extLoop (A := A.in1) hA.hh B.nl (by have := hA.hd; show A.depth < _; omega) hN done m 1 _ _ _ (by omega) ?_ G2
    rw [show (escRest 0 false txt.cps.toList).take 1 = [] ++ [(p, x)] by rw [List.take_add_one, hi]; rfl]
    exact TupsOf.nil.push
  · refine wpAny_pure (done #[] [] g' s' ?_ hb' M')
    rw [List.length_eq_zero_iff.mp h0]; exact TupsOf.nil
end
end Mine

namespace Mine
local macro_rules | `(tactic| ktr_rel) => `(tactic| first | exact Put.head | exact Put.tail (by ktr_rel))

def parStep (l : List Nat) (st : Int × Int) (k : Nat) : Int × Int :=
  let d := st.1 + (if l[k]? = some 40 then 1 else 0 - 1)
  (d, if d < st.2 then d else st.2)
def parSt (l ks : List Nat) (i : Nat) : Int × Int := (ks.take i).foldl (parStep l) (0, 0)
theorem parSt_succ (l ks : List Nat) {i k : Nat} (h : ks[i]? = some k) : parSt l ks (i + 1) = parStep l (parSt l ks i) k := by
  unfold parSt
  rw [List.take_add_one, h, List.foldl_append]; rfl
theorem freeN_lt {l sg : List Nat} {n k : Nat} (h : k ∈ freeN l sg n) : k < n := by
  unfold freeN at h
  exact List.mem_range.mp (List.mem_filter.mp h).1
theorem freeN_len (l sg : List Nat) (n : Nat) : (freeN l sg n).length ≤ n := by
  refine Nat.le_trans (List.length_filter_le _ _) ?_
  rw [List.length_range]; exact Nat.le_refl _

section
variable {prog : Program} {w : World} {A : Around} {E : Value → Shared → Prop} {s₀ s : Shared} {g : Array GenState} {ok : Bool} {led led' : Led} {env : Env} {mg mb : Str → Option Value}
set_option maxHeartbeats 4000000

theorem minM {a b : Int} {t u : Tok} {Q : Value → Shared → Prop} (hh : A.handled = none) (M : Mm s₀ g ok led s) (h : ∀ v s', Mm s₀ g ok led s' → Q (.int (if b < a then b else a) v) s') : wpAny (model prog w) A (call (.builtin "min") [.int a t, .int b u]) Q E s :=
  min_two_ints hh fun h' tk hk => by
    have := fun v => h v _ (M.kept (tk := tk) hk)
    by_cases c : b < a
    · simpa only [if_pos c] using this u
    · simpa only [if_neg c] using this t

/-- over a list of the call's own, which is given up -/
theorem itrOwn {l : Addr} {its : Array Value} {Q : Value → Shared → Prop} (hh : A.handled = none) (M : Mm s₀ g true ((l, listS its) :: led) s)
    (h : ∀ I s', Itr prog w A s₀ g led I its.size (fun i v => its[i]? = some v) s' → Q (.ref I) s') : wpAny (model prog w) A (pyIter (.ref l)) Q E s := by
  have hl := (list_of M (.head _)).isList
  have hlt : l < s.heap.objs.size := by obtain ⟨o, ho, _⟩ := hl; exact Heap.lt_size ho
  have hne : l ≠ s.heap.objs.size := Nat.ne_of_lt hlt
  have hnd := M.nodup_new
  refine wpAny_pyIter_list hl (h _ _ ⟨_, [l, s.heap.objs.size], _, _, Walks.list hh _ l hne its, ⟨⟨⟨_, Heap.get?_push_size _ rfl, rfl, rfl⟩, hl.push _⟩, fun i h st b hb => ?_, fun b hb' => ?_, fun b hb => ?_, ?_, fun b hb => ?_⟩, M.tail.kept (tk := s.toks) fun _ _ e => Heap.get?_push_of_some _ e⟩)
  · simp only [List.mem_cons, List.not_mem_nil, or_false] at hb
    rcases hb with rfl | rfl
    · exact ⟨_, st.2.choose_spec.1⟩
    · exact ⟨_, st.1.choose_spec.1⟩
  · simp only [List.mem_cons, List.not_mem_nil, or_false] at hb' ⊢
    exact .inl hb'.symm
  · simp only [List.mem_cons, List.not_mem_nil, or_false] at hb ⊢
    exact .inr hb
  · rw [List.map_cons, List.cons_append, List.nodup_cons] at hnd
    refine List.nodup_append.mpr ⟨(List.nodup_append.mp hnd.2).1, ?_, fun x hx y hy e => ?_⟩
    · simp only [List.nodup_cons, List.mem_cons, List.not_mem_nil, or_false, not_false_eq_true, List.nodup_nil, and_true]
      exact hne
    · subst e
      simp only [List.mem_cons, List.not_mem_nil, or_false] at hy
      rcases hy with rfl | rfl
      · exact hnd.1 (List.mem_append.mpr (.inl hx))
      · exact (List.nodup_append.mp hnd.2).2.2 _ hx _ (List.mem_singleton.mpr rfl) rfl
  · simp only [List.mem_cons, List.not_mem_nil, or_false] at hb
    rcases hb with rfl | rfl
    · exact (M.own rfl).1 _ (.head _)
    · exact M.old_none (fresh_none _)

def dLawLeast : Stmt := (forBody (dLaw.body.getD 12 (.Pass ⟨0, 0, 0, 0⟩))).getD 1 (.Pass ⟨0, 0, 0, 0⟩)
/-- the law's own space -/
def lawE (L a : Addr) (cd : Value) : Env := fenv dLaw L a cd [("marks", L + 2), ("k", L + 1)]

theorem lawD {L a : Addr} {cd : Value} {txt : Str} {t : Tok} {rest : Str} {tr : Tok} {mv kv : Option Value} {vl vr vd vp : Value} {Q : Flow → Shared → Prop} (B : Base mg mb s₀.heap) (hA : AOk 4 A) (hsz : txt.cps.size ≤ 100) (hrz : rest.cps.size ≤ 100) (hb : Bare g)
    (hrest : stripOut txt = rest)
    (hC : checkGo 0 (escRest 0 false rest.cps.toList) = (decide ((parSt rest.cps.toList (freeN rest.cps.toList [40, 41] rest.cps.size) (freeN rest.cps.toList [40, 41] rest.cps.size).length).2 = 0) && decide ((parSt rest.cps.toList (freeN rest.cps.toList [40, 41] rest.cps.size) (freeN rest.cps.toList [40, 41] rest.cps.size).length).1 = 0)))
    (M : Mm s₀ g true [(L + 2, cellS mv), (L + 1, cellS kv), (L, nsS (look [("script", vl), ("text", .str txt t), ("runs", vr), ("due", vd), ("pairs", vp), ("rest", .str rest tr)]))] s)
    (h : ∀ g' s', Bare g' → Mm s₀ g' true [] s' → Q (.ret (.bool true)) s') : wpAny (model prog w) A (execs (dLaw.body.drop 10) (lawE L a cd)) Q E s := by
  have hA1 := hA.less (m := 1) (by omega)
  have hA2 := hA.less (m := 2) (by omega)
  have hA3 := hA.less (m := 3) (by omega)
  have hrz' : rest.length ≤ sizeLine := by show rest.cps.size ≤ _; rw [sizeLine_eq]; omega
  refine wpAny_execs_cons (wpAny_Assign_Name (cInt M fun _ _ M => stL M (by ktr_rel) fun _ M => ?_))
  refine wpAny_execs_cons (wpAny_Assign_Name (cInt M fun _ _ M => stL M (by ktr_rel) fun _ M => ?_))
  refine wpAny_execs_cons (forE (s₀ := s₀) (g := g) (callF2 B M (d := dFree) (by k_mem) rfl (fun aF => ldL M (by k_mem) rfl (cStr M fun u _ M => ⟨M.keep, fun F' => free_spec (B.keeps M.keep) hA2 F' hrz fun D its s₁ hI N => ?_⟩))))
  have M := M.transG N
  have hlen := freeN_len rest.cps.toList [40, 41] rest.cps.size
  have hIlen := hI.1
  generalize hks : freeN rest.cps.toList [40, 41] rest.cps.size = ks at hC hlen
  have hI : IntsOf its ks := by rw [← hks]; exact hI
  refine itrOwn hA.hh M fun I s₂ T => ⟨I, _, _, _, rfl, T, fun i led => i ≤ its.size ∧ ∃ (kv : Option Value) (u1 u2 : Tok), led = [(L + 2, cellS mv), (L + 1, cellS kv), (L, nsS (look [("script", vl), ("text", .str txt t), ("runs", vr), ("due", vd), ("pairs", vp), ("rest", .str rest tr), ("depth", .int (parSt rest.cps.toList ks i).1 u1), ("least", .int (parSt rest.cps.toList ks i).2 u2)]))],
    ⟨Nat.zero_le _, _, _, _, rfl⟩, ?_, ?_⟩
  · rintro i v _ fz s₃ E' hi hv ⟨-, kv, u1, u2, rfl⟩ M
    have hik : i < ks.length := by rw [← hI.1]; exact hi
    obtain ⟨tk, hv'⟩ := hI.2 i ks[i] (List.getElem?_eq_getElem hik)
    rw [hv] at hv'
    have hv' : v = .int ((ks[i] : Nat) : Int) tk := Option.some.inj hv'
    subst hv'
    have hkn : ks[i] < rest.cps.size := by
      have : ks[i] ∈ freeN rest.cps.toList [40, 41] rest.cps.size := by rw [hks]; exact List.getElem_mem hik
      exact freeN_lt this
    have hsucc := parSt_succ rest.cps.toList ks (List.getElem?_eq_getElem hik)
    generalize ks[i] = k at hkn M hsucc
    generalize parSt rest.cps.toList ks i = st at M hsucc
    have hc : rest.cps[k]? = some (rest.cps[k]'hkn) := Array.getElem?_eq_getElem hkn
    generalize rest.cps[k]'hkn = c at hc
    have hcl : rest.cps.toList[k]? = some c := by simpa using hc
    refine stC M rfl (by ktr_rel) fun _ M => ?_
    refine wpAny_execs_cons (wpAny_Assign_Name (wpAny_BinOp (ldL M (by k_mem) rfl (IfExp_ (wpAny_isTrue_Compare1 (Subscript_ (ldL M (by k_mem) rfl (ldC M rfl (by k_mem) (itS M hc hrz' fun _ _ M => cStr M fun _ _ M => PyProof.Rows.eq_str (wpAny_truthy_bool ?_))))))))))
    have hfin : ∀ (d : Int) (u3 : Tok) s₄, d = (if rest.cps.toList[k]? = some 40 then 1 else 0 - 1) → Mm s₀ g true ([(L + 2, cellS mv), (L + 1, cellS (some (.int (k : Nat) tk))), (L, nsS (look [("script", vl), ("text", .str txt t), ("runs", vr), ("due", vd), ("pairs", vp), ("rest", .str rest tr), ("depth", .int (st.1 + d) u3), ("least", .int st.2 u2)]))] ++ fz) s₄ →
        wpAny (model prog w) A (execs [dLawLeast] (lawE L a cd)) (fun f s₃ => match f with
          | .next | .cont => ∃ led', (i + 1 ≤ its.size ∧ ∃ (kv : Option Value) (u1 u2 : Tok), led' = [(L + 2, cellS mv), (L + 1, cellS kv), (L, nsS (look [("script", vl), ("text", .str txt t), ("runs", vr), ("due", vd), ("pairs", vp), ("rest", .str rest tr), ("depth", .int (parSt rest.cps.toList ks (i + 1)).1 u1), ("least", .int (parSt rest.cps.toList ks (i + 1)).2 u2)]))]) ∧ Mm s₀ g true (led' ++ fz) s₃
          | .brk => False
          | .ret v => False) E' s₄ := by
      intro d u3 s₄ hd M
      refine wpAny_execs_cons (wpAny_Assign_Name (callB2 B M (by k_mem) (ldL M (by k_mem) rfl (ldL M (by k_mem) rfl (minM hA.hh M fun u4 _ M => stL M (by ktr_rel) fun _ M => wpAny_execs_nil ?_)))))
      have hs : parSt rest.cps.toList ks (i + 1) = (st.1 + d, if st.1 + d < st.2 then st.1 + d else st.2) := by rw [hsucc, parStep, hd]
      rw [hs]
      exact ⟨_, ⟨hi, _, u3, u4, rfl⟩, M⟩
    rw [sgn_eq (x := "(") (k := 40) rfl]
    by_cases h40 : c = 40
    · rw [decide_eq_true h40, if_pos rfl]
      refine cInt M fun _ _ M => addI M fun u3 _ M => stL M (by ktr_rel) fun s₄ M => ?_
      refine wpAny_mono (hfin 1 u3 s₄ (by rw [hcl, h40, if_pos rfl]) M) (fun f s' hf => ?_) fun _ _ e => e
      cases f with
      | next => exact hf
      | cont => exact hf
      | brk => exact hf.elim
      | ret v => exact hf.elim
    · rw [decide_eq_false h40, if_neg Bool.false_ne_true]
      refine wpAny_BinOp (cInt M fun _ _ M => cInt M fun _ _ M => subI M fun _ _ M => addI M fun u3 _ M => stL M (by ktr_rel) fun s₄ M => ?_)
      refine wpAny_mono (hfin (0 - 1) u3 s₄ (by rw [hcl, if_neg (fun e => h40 (Option.some.inj e))]) M) (fun f s' hf => ?_) fun _ _ e => e
      cases f with
      | next => exact hf
      | cont => exact hf
      | brk => exact hf.elim
      | ret v => exact hf.elim
  · rintro _ s' ⟨-, kv, u1, u2, rfl⟩ M
    rw [hI.1] at M
    generalize parSt rest.cps.toList ks ks.length = st at M hC
    subst hrest
    refine wpAny_execs_cons (wpAny_Return_some (wpAny_Compare1 (callF1 B M (d := dCheck) (by k_mem) rfl (fun aC => ldL M (by k_mem) rfl ⟨M.keep, fun F' => check_spec (B.keeps M.keep) hA3 F' hsz hrz (by rw [M.gens]; exact hb) fun g₂ s₂ hb₂ N => ?_⟩))))
    have M := M.trans N (fun e => e)
    rw [hC]
    refine BoolOp_and (wpAny_Compare1 (ldL M (by k_mem) rfl (cInt M fun _ _ M => P.eq_int (wpAny_truthy_bool ?_))))
    have e2 : (st.2 == 0) = decide (st.2 = 0) := by by_cases h0 : st.2 = 0 <;> simp [h0]
    have e1 : (st.1 == 0) = decide (st.1 = 0) := by by_cases h0 : st.1 = 0 <;> simp [h0]
    rw [e2]
    cases hd2 : decide (st.2 = 0) with
    | false =>
      rw [if_neg Bool.false_ne_true, Bool.false_and]
      refine wpAny_is_plain rfl ?_
      exact h g₂ _ hb₂ M.noRow
    | true =>
      rw [if_pos rfl, Bool.true_and]
      refine BoolOp_one (wpAny_Compare1 (ldL M (by k_mem) rfl (cInt M fun _ _ M => P.eq_int (wpAny_is_plain rfl ?_))))
      rw [e1, beq_self_eq_true]
      exact h g₂ _ hb₂ M.noRow
end
end Mine

namespace Mine
local macro_rules | `(tactic| ktr_rel) => `(tactic| first | exact Put.head | exact Put.tail (by ktr_rel))

def cov (k : Nat) (p : Nat × Nat) : Bool := decide (p.1 ≤ k) && decide (k ≤ p.2)
def pairsOf (m : List Nat) : List (Nat × Nat) := (List.range (m.length / 2)).map fun j => (m.getD (2 * j) 0, m.getD (2 * j + 1) 0)
def restN (l : List Nat) (ps : List (Nat × Nat)) (i : Nat) : List Nat := (List.range i).flatMap fun k => if ps.any (cov k) = true then [] else l[k]?.toList
theorem restN_succ (l : List Nat) (ps : List (Nat × Nat)) (i : Nat) : restN l ps (i + 1) = restN l ps i ++ if ps.any (cov i) = true then [] else l[i]?.toList := by
  unfold restN
  rw [List.range_succ, List.flatMap_append, List.flatMap_singleton]
theorem restN_len (l : List Nat) (ps : List (Nat × Nat)) : ∀ i, (restN l ps i).length ≤ i
  | 0 => Nat.le_refl _
  | i + 1 => by
    rw [restN_succ, List.length_append]
    have := restN_len l ps i
    split
    · simp; omega
    · cases l[i]? <;> simp <;> omega

def PairsOf (its : Array Value) (rows : Led) (E : List (Nat × Nat)) : Prop :=
  its.size = E.length ∧ ∀ (j p q : Nat), E[j]? = some (p, q) → ∃ T u u', its[j]? = some (.ref T) ∧ (T, tupS #[.int (p : Nat) u, .int (q : Nat) u']) ∈ rows
theorem PairsOf.nil : PairsOf #[] [] [] := ⟨rfl, fun j p x h => by simp at h⟩
theorem PairsOf.push {its : Array Value} {rows : Led} {E : List (Nat × Nat)} {T : Addr} {p q : Nat} {u u' : Tok} (h : PairsOf its rows E) : PairsOf (its.push (.ref T)) ((T, tupS #[.int (p : Nat) u, .int (q : Nat) u']) :: rows) (E ++ [(p, q)]) := by
  refine ⟨by rw [Array.size_push, h.1, List.length_append, List.length_singleton], fun j a b hj => ?_⟩
  by_cases e : j = E.length
  · subst e
    rw [List.getElem?_append_right (Nat.le_refl _), Nat.sub_self] at hj
    have hj : some (p, q) = some (a, b) := hj
    cases hj
    exact ⟨T, u, u', by rw [Array.getElem?_push, h.1, if_pos rfl], .head _⟩
  · have hlt : j < E.length := by
      have := (List.getElem?_eq_some_iff.mp hj).1
      rw [List.length_append, List.length_singleton] at this
      omega
    rw [List.getElem?_append_left hlt] at hj
    obtain ⟨T', v, v', h1, h2⟩ := h.2 j a b hj
    exact ⟨T', v, v', by rw [Array.getElem?_push, h.1, if_neg e]; exact h1, .tail _ h2⟩

section
variable {prog : Program} {w : World} {A : Around} {E : Value → Shared → Prop} {s₀ s : Shared} {g : Array GenState} {ok : Bool} {led led' : Led} {env : Env} {mg mb : Str → Option Value}
set_option maxHeartbeats 4000000

theorem Mm.read {s' : Shared} {ok' : Bool} (R : Mm s₀ g ok led s₀) (M : Mm s₀ g ok' led' s') : Mm s₀ g false led s' :=
  ⟨M.same, M.keep, fun p hp => let ⟨o, ho, hP⟩ := R.has p hp; ⟨o, M.keep _ _ ho, hP⟩, fun x => nomatch x⟩

theorem itT {value slice : Expr} {l : Addr} {its : Array Value} {u : Tok} {i : Nat} {v : Value} {Q : Value → Shared → Prop} (M : Mm s₀ g ok led s) (hm : (l, tupS its) ∈ led) (hv : its[i]? = some v) (hsz : its.size ≤ sizeLine) (h : Q v s)
    (hs : subscripted slice false (.ref l) (.int i u) = operate [.ref l, .int i u] (getItem (.ref l) (.int i u)) := by with_unfolding_all rfl) (ht : ∀ r, letTemporaryGo value (.ref l) r = pure () := by intro _; with_unfolding_all rfl) :
    wpAny (model prog w) A (subscriptTail value slice (.ref l) (.int i u)) Q E s := by
  have hlt : i < its.size := (Array.getElem?_eq_some_iff.mp hv).1
  rw [sizeLine_eq] at hsz
  exact subscriptTail_builtin (tup_of M hm).typeIs slot_tuple_getitem.lookup (getItem_tuple (tup_of M hm) (by omega) (by omega) (seqIndex_of (k := (i : Int)) (by omega) (by omega)) (by simpa using hv) h) hs ht

theorem rangeTwo (n : Nat) : Builtin.Range.rangeSize 0 ((n : Int) - 1) 2 = ((n / 2 : Nat) : Int) := by
  unfold Builtin.Range.rangeSize
  rw [if_pos (by decide)]
  split <;> omega
theorem smallTwo {n : Nat} (h : n ≤ 200) : Builtin.Range.small 0 ((n : Int) - 1) 2 = true := by
  unfold Builtin.Range.small
  rw [rangeTwo]
  simp only [Builtin.Range.rangeFitsLong, Bool.and_eq_true, Bool.or_eq_true, decide_eq_true_eq, beq_iff_eq, show (2 : Int) > 0 by decide, if_true]
  omega
end
end Mine

namespace Mine
local macro_rules | `(tactic| ktr_rel) => `(tactic| first | exact Put.head | exact Put.tail (by ktr_rel))

theorem pairsOf_take (m : List Nat) {i : Nat} (h : i < m.length / 2) : (pairsOf m).take (i + 1) = (pairsOf m).take i ++ [(m.getD (2 * i) 0, m.getD (2 * i + 1) 0)] := by
  rw [List.take_add_one]
  congr 1
  unfold pairsOf
  rw [List.getElem?_map, List.getElem?_range h]; rfl
theorem pairsOf_len (m : List Nat) : (pairsOf m).length = m.length / 2 := by unfold pairsOf; rw [List.length_map, List.length_range]

section
variable {prog : Program} {w : World} {A : Around} {E : Value → Shared → Prop} {s₀ s : Shared} {g : Array GenState} {led led' : Led} {env : Env} {mg mb : Str → Option Value}
set_option maxHeartbeats 4000000

/-- pairs = [(marks[k], marks[k + 1]) for k in range(0, len(marks) - 1, 2)] -/
theorem lawPairs {L a Mk : Addr} {cd : Value} {mits : Array Value} {marks : List Nat} {kv : Option Value} {ns : List (Str × Value)} {Q : Flow → Shared → Prop} (B : Base mg mb s₀.heap) (hA : AOk 4 A) (hmz : marks.length ≤ 100) (hI : IntsOf mits marks)
    (M : Mm s₀ g true [(Mk, listS mits), (L + 2, cellS (some (.ref Mk))), (L + 1, cellS kv), (L, nsS (look ns))] s)
    (h : ∀ D its rows s', PairsOf its rows (pairsOf marks) → Mm s₀ g true ((D, listS its) :: (L + 2, cellS (some (.ref Mk))) :: (L + 1, cellS kv) :: (L, nsS (look (put "pairs" (.ref D) ns))) :: rows) s' → Q .next s') :
    wpAny (model prog w) A (exec (dLaw.body.getD 6 (.Pass ⟨0, 0, 0, 0⟩)) (lawE L a cd)) Q E s := by
  have hz : mits.size ≤ sizeLine := by rw [hI.1, sizeLine_eq]; omega
  refine ListCompA (s₀ := s₀) (g := g) (cl := [("marks", L + 2)]) rfl rfl (by decide) rfl (by decide) rfl (callB3 B M (by k_mem) (cInt M fun _ _ M => wpAny_BinOp (callB1 B M (by k_mem) (ldC M rfl (by k_mem) (lenL M (by k_mem) hz fun _ _ M => cInt M fun _ _ M => subI M fun _ _ M => cInt M fun _ _ M => rng3 M (by decide) ?pyl fun r s₄ M => itrRange hA.hh M (.head _) ?sm (n := marks.length / 2) ?rs fun I s₅ T => ?body)))))
  case pyl => exact PyProof.noPylong_small (by decide)
  case sm => rw [hI.1]; exact smallTwo (by omega)
  case rs => rw [hI.1]; exact rangeTwo _
  case body =>
    refine ⟨I, _, _, _, rfl, T, fun i its led => i ≤ marks.length / 2 ∧ ∃ rows, PairsOf its rows ((pairsOf marks).take i) ∧ led = (r, rngS 0 ((mits.size : Int) - 1) 2) :: (Mk, listS mits) :: (L + 2, cellS (some (.ref Mk))) :: (L + 1, cellS kv) :: (L, nsS (look ns)) :: rows, ⟨Nat.zero_le _, [], PairsOf.nil, rfl⟩, ?_, ?_, ?_⟩
    · rintro i its' _ ⟨hi, rows, hP, -⟩
      rw [hP.1, List.length_take, sizeLine_eq]; omega
    · rintro C D i v its' _ fz l s₆ E' hi ⟨tk, rfl⟩ ⟨-, rows, hP, rfl⟩ hl M
      rw [show (0 : Int) + (i : Int) * 2 = ((2 * i : Nat) : Int) by push_cast; omega] at hl
      obtain ⟨t1, h1⟩ := hI.2 (2 * i) (marks.getD (2 * i) 0) (by rw [List.getD_eq_getElem?_getD, List.getElem?_eq_getElem (by omega)]; rfl)
      obtain ⟨t2, h2⟩ := hI.2 (2 * i + 1) (marks.getD (2 * i + 1) 0) (by rw [List.getD_eq_getElem?_getD, List.getElem?_eq_getElem (by omega)]; rfl)
      refine ifs0 ?_
      rw [if_pos rfl]
      refine Tup2 (Subscript_ (ldC M rfl (by k_mem) (ldL M (by k_mem) hl (itL M (by k_mem) h1 hz (Subscript_ (ldC M rfl (by k_mem) (wpAny_BinOp (ldL M (by k_mem) hl (cInt M fun _ _ M => addI M fun _ _ M => ?_)))))))))
      rw [show (((2 * i : Nat) : Int) + 1) = ((2 * i + 1 : Nat) : Int) by push_cast; rfl]
      refine itL M (by k_mem) h2 hz (newTup M fun T s₇ M => ⟨_, ⟨hi, (T, tupS #[.int ((marks.getD (2 * i) 0 : Nat) : Int) t1, .int ((marks.getD (2 * i + 1) 0 : Nat) : Int) t2]) :: rows, ?_, rfl⟩, M.perm ?_⟩)
      · rw [pairsOf_take _ hi]; exact hP.push
      · exact (List.perm_middle (l₁ := [(C, nsS (look l)), (D, listS its'), (r, rngS 0 ((mits.size : Int) - 1) 2), (Mk, listS mits), (L + 2, cellS (some (.ref Mk))), (L + 1, cellS kv), (L, nsS (look ns))]) (l₂ := rows ++ fz)).symm
    · rintro D its' _ ⟨-, rows, hP, rfl⟩
      rw [List.take_of_length_le (by rw [pairsOf_len]; exact Nat.le_refl _)] at hP
      refine ⟨ns, _, by ktr_rel, fun t M => h D its' rows t hP (M.sub ?_)⟩
      exact .cons_cons _ (.cons _ (.cons _ (List.Sublist.refl _)))
end
end Mine

namespace Mine
local macro_rules | `(tactic| ktr_rel) => `(tactic| first | exact Put.head | exact Put.tail (by ktr_rel))

section
variable {prog : Program} {w : World} {A : Around} {E : Value → Shared → Prop} {s₀ s : Shared} {g : Array GenState} {led led' : Led} {env : Env} {mg mb : Str → Option Value}
set_option maxHeartbeats 4000000

theorem eqNil {D D' : Addr} {its : Array Value} {Q : Value → Shared → Prop} {ok : Bool} (hu : A.units < cLine) (M : Mm s₀ g ok led s) (h1 : (D, listS its) ∈ led) (h2 : (D', listS #[]) ∈ led) (h : Q (.bool (decide (its.size = 0))) s) :
    wpAny (model prog w) A (compareOp .Eq (.ref D) (.ref D')) Q E s := by
  by_cases hz : its.size = 0
  · rw [decide_eq_true hz] at h
    refine SeqAt.eq_listAt (e := fun _ => true) (list_of M h1).isList (list_of M h2).isList (by rw [hz]; rfl) hu (fun j hj => by omega) ?_
    rw [hz]; exact h
  · rw [decide_eq_false hz] at h
    refine SeqAt.eq_list_lengthsAt (list_of M h1).isList (list_of M h2).isList ?_ hu h
    simpa using hz

theorem countLen {α : Type} (p : α → Bool) (l : List α) (i : Nat) (x : α) (h : l[i]? = some x) : ((l.take (i + 1)).filter p).length = ((l.take i).filter p).length + (if p x = true then 1 else 0) := by
  rw [List.take_add_one, h, List.filter_append, List.length_append]
  congr 1
  show (List.filter p [x]).length = _
  cases hp : p x <;> simp [hp]

def ifTest : Stmt → Expr
  | .If t _ _ _ => t
  | _ => .Constant .none 0 ⟨0, 0, 0, 0⟩
def cmpL : Expr → Expr
  | .Compare l _ _ _ => l
  | e => e
def covE : Expr := cmpL (ifTest ((forBody (dLaw.body.getD 8 (.Pass ⟨0, 0, 0, 0⟩))).getD 0 (.Pass ⟨0, 0, 0, 0⟩)))
/-- the comprehension of the pairs that hold the place k -/
theorem lawCov {cd : Value} {L a D : Addr} {its : Array Value} {rows : Led} {ps : List (Nat × Nat)} {k : Nat} {tk : Tok} {lx : Led} {ns : List (Str × Value)} {Q : Value → Shared → Prop}
    (hA : AOk 4 A) (hpz : ps.length ≤ 100) (hP : PairsOf its rows ps) (hns : look ns "pairs" = some (.ref D))
    (M : Mm s₀ g true lx s) (hD : (D, listS its) ∈ lx) (hk : (L + 1, cellS (some (.int (k : Nat) tk))) ∈ lx) (hL : (L, nsS (look ns)) ∈ lx) (hrows : ∀ p ∈ rows, p ∈ lx)
    (h : ∀ D' its' s', its'.size = (ps.filter (cov k)).length → Mm s₀ g true ((D', listS its') :: lx) s' → Q (.ref D') s') :
    wpAny (model prog w) A (eval covE (lawE L a cd)) Q E s := by
  have R : Mm s g false lx s := by have := M.rebase (led' := lx) (fun _ hp => hp); rwa [M.gens] at this
  have M0 : Mm s g true [] s := by have := Mm.start s true; rwa [M.gens] at this
  have hDl := (list_of M hD).isList
  refine ListCompE (s₀ := s) (g := g) (cl := [("k", L + 1)]) rfl (by decide) rfl (by decide) rfl (ldL M hL hns (itrList hA.hh M0 hDl (let ⟨o, ho, _⟩ := hDl; ⟨o, ho⟩) fun I s₂ T => ?_))
  refine ⟨I, _, _, _, rfl, T, fun i its' led => i ≤ its.size ∧ its'.size = ((ps.take i).filter (cov k)).length ∧ led = [], ⟨Nat.zero_le _, rfl, rfl⟩, ?_, ?_, ?_⟩
  · rintro i its' _ ⟨hi, h1, -⟩
    have := List.length_filter_le (cov k) (ps.take i)
    rw [List.length_take] at this
    rw [h1, sizeLine_eq]; omega
  · rintro C D' i v its' _ fz ll s₆ E' hi hv ⟨-, h1, rfl⟩ hl N
    have hip : i < ps.length := by rw [← hP.1]; exact hi
    obtain ⟨T', u1, u2, ht, htr⟩ := hP.2 i ps[i].1 ps[i].2 (List.getElem?_eq_getElem hip)
    have hcnt := countLen (cov k) ps i ps[i] (List.getElem?_eq_getElem hip)
    generalize ps[i] = pq at ht htr hcnt
    obtain ⟨p, q⟩ := pq
    rw [hv] at ht
    have ht : v = .ref T' := Option.some.inj ht
    subst ht
    have tz : ∀ x y : Value, (#[x, y] : Array Value).size ≤ sizeLine := fun _ _ => by rw [sizeLine_eq]; exact (by decide : 2 ≤ 16777216)
    refine ifs1 (isTrue_chain (Subscript_ (ldL N (by k_mem) hl (cInt N fun _ _ N => itT (i := 0) (R.read N) (hrows _ htr) rfl (tz _ _) (test_link (ldC (R.read N) rfl hk (P.le_int (wpAny_truthy_bool ?_))))))))
    by_cases hpk : p ≤ k
    · rw [decide_eq_true (by omega : (p : Int) ≤ (k : Int)), if_pos rfl]
      refine test_last (Subscript_ (ldL N (by k_mem) hl (cInt N fun _ _ N => itT (i := 1) (R.read N) (hrows _ htr) rfl (tz _ _) (P.le_int (wpAny_truthy_bool ?_)))))
      by_cases hkq : k ≤ q
      · rw [decide_eq_true (by omega : (k : Int) ≤ (q : Int)), if_pos rfl]
        have hc : cov k (p, q) = true := by unfold cov; rw [decide_eq_true hpk, decide_eq_true hkq]; rfl
        rw [hc, if_pos rfl] at hcnt
        exact ldL N (by k_mem) hl ⟨[], ⟨hi, by rw [Array.size_push, h1, hcnt], rfl⟩, N⟩
      · rw [decide_eq_false (by omega : ¬ (k : Int) ≤ (q : Int)), if_neg Bool.false_ne_true]
        have hc : cov k (p, q) = false := by unfold cov; rw [decide_eq_false hkq, Bool.and_false]
        rw [hc, if_neg Bool.false_ne_true] at hcnt
        exact ⟨[], ⟨hi, by rw [h1, hcnt, Nat.add_zero], rfl⟩, N⟩
    · rw [decide_eq_false (by omega : ¬ (p : Int) ≤ (k : Int)), if_neg Bool.false_ne_true, if_neg Bool.false_ne_true]
      have hc : cov k (p, q) = false := by unfold cov; rw [decide_eq_false hpk, Bool.false_and]
      rw [hc, if_neg Bool.false_ne_true] at hcnt
      exact ⟨[], ⟨hi, by rw [h1, hcnt, Nat.add_zero], rfl⟩, N⟩
  · rintro D' its' _ s' ⟨-, h1, rfl⟩ N
    refine h D' its' s' (by rw [h1, hP.1, List.take_length]) (M.trans N (fun e => e))
end
end Mine

namespace Mine
local macro_rules | `(tactic| ktr_rel) => `(tactic| first | exact Put.head | exact Put.tail (by ktr_rel))

theorem filter_any {α : Type} (p : α → Bool) (l : List α) : ((l.filter p).length = 0) ↔ l.any p = false := by
  rw [List.length_eq_zero_iff, List.filter_eq_nil_iff, List.any_eq_false]

section
variable {prog : Program} {w : World} {A : Around} {E : Value → Shared → Prop} {s₀ s : Shared} {g : Array GenState} {led led' : Led} {env : Env} {mg mb : Str → Option Value}
set_option maxHeartbeats 4000000

theorem lawC {L a D : Addr} {cd : Value} {txt : Str} {t : Tok} {its : Array Value} {rows : Led} {ps : List (Nat × Nat)} {mv kv : Option Value} {vl vr vd : Value} {Q : Flow → Shared → Prop} (B : Base mg mb s₀.heap) (hA : AOk 4 A) (hsz : txt.cps.size ≤ 63) (hb : Bare g)
    (hpz : ps.length ≤ 100) (hP : PairsOf its rows ps)
    (hB : (stripOut txt).cps = (restN txt.cps.toList ps txt.cps.size).toArray)
    (hC : ∀ r : List Nat, (stripOut txt).cps = r.toArray → checkGo 0 (escRest 0 false r) = (decide ((parSt r (freeN r [40, 41] r.length) (freeN r [40, 41] r.length).length).2 = 0) && decide ((parSt r (freeN r [40, 41] r.length) (freeN r [40, 41] r.length).length).1 = 0)))
    (M : Mm s₀ g true ((D, listS its) :: (L + 2, cellS mv) :: (L + 1, cellS kv) :: (L, nsS (look [("script", vl), ("text", .str txt t), ("runs", vr), ("due", vd), ("pairs", .ref D)])) :: rows) s)
    (h : ∀ g' s', Bare g' → Mm s₀ g' true [] s' → Q (.ret (.bool true)) s') : wpAny (model prog w) A (execs (dLaw.body.drop 7) (lawE L a cd)) Q E s := by
  have hz : txt.length ≤ sizeLine := by show txt.cps.size ≤ _; rw [sizeLine_eq]; omega
  refine wpAny_execs_cons (wpAny_Assign_Name (cStr M fun u0 _ M => stL M (by ktr_rel) fun _ M => ?_))
  refine wpAny_execs_cons (forE (s₀ := s₀) (g := g) (callB1 B M (by k_mem) (callB1 B M (by k_mem) (ldL M (by k_mem) rfl (lenS M hz fun _ _ M => rng1 M fun r s₄ M => itrRange hA.hh M (.head _) (small1 (by show txt.cps.size ≤ 100; omega)) (n := txt.cps.size) ?rs fun I s₅ T => ?body)))))
  case rs => rw [rangeSize_one]; show (if (0 : Int) < ((txt.cps.size : Nat) : Int) then _ else _) = _; split <;> (show _ = ((txt.cps.size : Nat) : Int)) <;> (try show ((txt.cps.size : Nat) : Int) - 0 = _) <;> omega
  refine ⟨I, _, _, _, rfl, T, fun i led => i ≤ txt.cps.size ∧ ∃ (kv : Option Value) (u : Tok), led = (r, rngS 0 txt.length 1) :: (D, listS its) :: (L + 2, cellS mv) :: (L + 1, cellS kv) :: (L, nsS (look [("script", vl), ("text", .str txt t), ("runs", vr), ("due", vd), ("pairs", .ref D), ("rest", .str ⟨(restN txt.cps.toList ps i).toArray⟩ u)])) :: rows,
    ⟨Nat.zero_le _, kv, u0, rfl⟩, ?turn, ?done⟩
  case turn =>
    rintro i v _ fz s₆ E' hi ⟨tk, rfl⟩ ⟨-, kv, u, rfl⟩ M
    rw [show (0 : Int) + (i : Int) * 1 = ((i : Nat) : Int) by omega]
    have hc : txt.cps[i]? = some (txt.cps[i]'hi) := Array.getElem?_eq_getElem hi
    generalize txt.cps[i]'hi = c at hc
    have hcl : txt.cps.toList[i]? = some c := by simpa using hc
    have hsucc := restN_succ txt.cps.toList ps i
    have hlen := restN_len txt.cps.toList ps i
    rw [hcl] at hsucc
    refine stC M rfl (by ktr_rel) fun _ M => ?_
    refine wpAny_execs_cons (wpAny_If (wpAny_isTrue_Compare1 (lawCov hA hpz hP rfl M (by k_mem) (by k_mem) (by k_mem) (fun p hp => ?_) fun D' its' s₇ hn M => Lst0 (newLst M fun D'' _ M => eqNil (by have := hA.hu; omega) M (.tail _ (.head _)) (.head _) (wpAny_truthy_bool ?_)))))
    · exact .tail _ (.tail _ (.tail _ (.tail _ (.tail _ (List.mem_append.mpr (.inl hp))))))
    have M := M.tail.tail
    by_cases hz0 : its'.size = 0
    · rw [decide_eq_true hz0, if_pos rfl]
      have hany : ps.any (cov i) = false := (filter_any _ _).mp (by rw [← hn]; exact hz0)
      rw [hany, if_neg Bool.false_ne_true] at hsucc
      refine wpAny_execs_cons (wpAny_Assign_Name (wpAny_BinOp (ldL M (by k_mem) rfl (Subscript_ (ldL M (by k_mem) rfl (ldC M rfl (by k_mem) (itS M hc hz fun _ _ M => addS M ?_ fun u3 _ M => stL M (by ktr_rel) fun _ M => ?_)))))))
      · show (restN txt.cps.toList ps i).toArray.size + 1 ≤ _
        rw [List.size_toArray, sizeLine_eq]; omega
      refine wpAny_execs_nil (wpAny_execs_nil ⟨_, ⟨hi, some (.int ((i : Nat) : Int) tk), u3, rfl⟩, ?_⟩)
      rw [hsucc]
      rw [show ((⟨(restN txt.cps.toList ps i).toArray⟩ : Str) ++ (⟨#[c]⟩ : Str)) = (⟨(restN txt.cps.toList ps i ++ (some c).toList).toArray⟩ : Str) by
        apply Str.ext'; show (restN txt.cps.toList ps i).toArray ++ #[c] = _; simp] at M
      exact M
    · rw [decide_eq_false hz0, if_neg Bool.false_ne_true]
      have hany : ps.any (cov i) = true := by
        cases hh : ps.any (cov i) with
        | true => rfl
        | false => exact absurd (by rw [hn]; exact (filter_any _ _).mpr hh) hz0
      rw [hany, if_pos rfl, List.append_nil] at hsucc
      refine wpAny_execs_nil (wpAny_execs_nil ⟨_, ⟨hi, some (.int ((i : Nat) : Int) tk), u, rfl⟩, ?_⟩)
      rw [hsucc]
      exact M
  case done =>
    rintro _ s' ⟨-, kv, u, rfl⟩ M
    have hso : stripOut txt = ⟨(restN txt.cps.toList ps txt.cps.size).toArray⟩ := Str.ext' hB
    have hC := hC _ hB
    have hlen := restN_len txt.cps.toList ps txt.cps.size
    generalize restN txt.cps.toList ps txt.cps.size = R at M hso hC hlen
    have hA2 := hA.less (m := 2) (by omega)
    refine wpAny_execs_cons (wpAny_If (wpAny_isTrue_Compare1 (callF1 B M (d := dStrip) (by k_mem) rfl (fun aS => ldL M (by k_mem) rfl ⟨M.keep, fun F' => strip_spec (B.keeps M.keep) hA2 F' (by omega) (by rw [M.gens]; exact hb) fun g₂ t₂ s₂ hb₂ N => ?_⟩))))
    have M := M.trans N (fun e => e)
    refine ldL M (by k_mem) rfl (PyProof.Rows.ne_str (wpAny_truthy_bool ?_))
    rw [hso, bne_self_eq_false, if_neg Bool.false_ne_true]
    refine wpAny_execs_nil ?_
    refine lawD (vl := vl) (vr := vr) (vd := vd) (vp := .ref D) (t := t) (tr := u) (mv := mv) (kv := kv) B hA (by omega) (rest := ⟨R.toArray⟩) (by show R.toArray.size ≤ 100; rw [List.size_toArray]; omega) hb₂ hso ?_ (M.sub ?_) h
    · show checkGo 0 (escRest 0 false R.toArray.toList) = _
      simpa using hC
    · show List.Sublist _ ((r, rngS 0 txt.length 1) :: (D, listS its) :: (L + 2, cellS mv) :: (L + 1, cellS kv) :: (L, _) :: rows)
      exact .cons _ (.cons _ (.cons_cons _ (.cons_cons _ (.cons_cons _ (List.nil_sublist _)))))
end
end Mine

namespace Mine
local macro_rules | `(tactic| ktr_rel) => `(tactic| first | exact Put.head | exact Put.tail (by ktr_rel))

section
variable {prog : Program} {w : World} {A : Around} {E : Value → Shared → Prop} {s₀ s : Shared} {g : Array GenState} {ok : Bool} {led led' : Led} {env : Env} {mg mb : Str → Option Value}
set_option maxHeartbeats 4000000

/-- two lists of the same pairs are not unequal -/
theorem neTups {D D' : Addr} {its its' : Array Value} {rows rows' : Led} {X : List (Nat × Str)} {Q : Value → Shared → Prop} (hu : A.units + 10 < cLine) (M : Mm s₀ g ok led s) (h1 : (D, listS its) ∈ led) (h2 : (D', listS its') ∈ led)
    (hr : ∀ p ∈ rows, p ∈ led) (hr' : ∀ p ∈ rows', p ∈ led) (hX : TupsOf its rows X) (hX' : TupsOf its' rows' X) (h : Q (.bool false) s) :
    wpAny (model prog w) A (compareOp .NotEq (.ref D) (.ref D')) Q E s := by
  refine SeqAt.RcNeAt.lists (e := fun _ => true) (list_of M h1).isList (list_of M h2).isList (by rw [hX.1, hX'.1]) (by omega) (fun j hj hj' => ?_) prog w E Q ?_
  · have hjx : j < X.length := by rw [← hX.1]; exact hj
    obtain ⟨T, u, u', ht, htr⟩ := hX.2 j X[j].1 X[j].2 (List.getElem?_eq_getElem hjx)
    obtain ⟨T', v, v', ht', htr'⟩ := hX'.2 j X[j].1 X[j].2 (List.getElem?_eq_getElem hjx)
    have e1 : its[j] = .ref T := by
      have := Array.getElem?_eq_getElem hj
      rw [this] at ht; exact Option.some.inj ht
    have e2 : its'[j] = .ref T' := by
      have := Array.getElem?_eq_getElem hj'
      rw [this] at ht'; exact Option.some.inj ht'
    rw [e1, e2]
    by_cases hTT : T = T'
    · subst hTT; exact SeqAt.EqAt.same _
    · have it1 : ∀ {T : Addr} {p : Nat} {x : Str} {u u' : Tok}, (T, tupS #[.int (p : Nat) u, .str x u']) ∈ led → s.heap.IsTuple T #[.int (p : Nat) u, .str x u'] := fun hm => let ⟨o, ho, hc, n, hd⟩ := M.row hm; ⟨o, ho, hc, n, hd⟩
      have := SeqAt.RcAt.tuples (A := A.in1) (e := fun _ => true) (it1 (hr _ htr)) (it1 (hr' _ htr')) (by show A.units + 1 < _; omega) (fun k h1 h2 => ?_)
      · exact SeqAt.EqAt.of_refs hTT this
      · match k, h1 with
        | 0, _ =>
          have := SeqAt.EqAt.int_int (A := A.in1.in1) (s := s) (X[j].1 : Nat) u (X[j].1 : Nat) v
          rw [beq_self_eq_true] at this; exact this
        | 1, _ =>
          have := SeqAt.EqAt.str_str (A := A.in1.in1) (s := s) X[j].2 u' X[j].2 v'
          rw [beq_self_eq_true] at this; exact this
        | k + 2, h => exact absurd h (by show ¬ (k + 2 < 2); omega)
  · rw [show (List.range its.size).all (fun _ => true) = true by simp]
    exact h

theorem lawB {L a Du : Addr} {cd : Value} {txt : Str} {t : Tok} {dits : Array Value} {drows : Led} {vl vr : Value} {kv : Option Value} {Q : Flow → Shared → Prop} (B : Base mg mb s₀.heap) (hA : AOk 5 A) (hsz : txt.cps.size ≤ 63) (hb : Bare g)
    (hD : TupsOf dits drows (escRest 0 false txt.cps.toList))
    (hB : (stripOut txt).cps = (restN txt.cps.toList (pairsOf (freeN txt.cps.toList [34] txt.cps.size)) txt.cps.size).toArray)
    (hC : ∀ r : List Nat, (stripOut txt).cps = r.toArray → checkGo 0 (escRest 0 false r) = (decide ((parSt r (freeN r [40, 41] r.length) (freeN r [40, 41] r.length).length).2 = 0) && decide ((parSt r (freeN r [40, 41] r.length) (freeN r [40, 41] r.length).length).1 = 0)))
    (M : Mm s₀ g true ((Du, listS dits) :: (L + 2, cellS none) :: (L + 1, cellS kv) :: (L, nsS (look [("script", vl), ("text", .str txt t), ("runs", vr), ("due", .ref Du)])) :: drows) s)
    (h : ∀ g' s', Bare g' → Mm s₀ g' true [] s' → Q (.ret (.bool true)) s') : wpAny (model prog w) A (execs (dLaw.body.drop 4) (lawE L a cd)) Q E s := by
  have hA4 := hA.less (m := 4) (by omega)
  have hA3 := hA.less (m := 3) (by omega)
  have hA2 := hA.less (m := 2) (by omega)
  refine wpAny_execs_cons (wpAny_If (wpAny_isTrue_Compare1 (callB1 B M (by k_mem) (callF1 B M (d := dIter) (by k_mem) rfl (fun aI => ldL M (by k_mem) rfl ⟨M.keep, fun F' => ?_⟩)))))
  refine fnCallGen F' (B.keeps M.keep).nl (by have := hA.hd; omega) (binds := [("addr", .str txt t)]) (fun _ _ _ => rfl) (by decide) (by simp; rfl) (fun ag L' cd' s₂ N => ?_)
  have hgg := M.gens
  have M2 := (M.trans N (fun e => e)).perm (List.perm_append_comm (l₁ := [(ag, genS s.gens.size), (L', nsS (look [("addr", .str txt t)]))]))
  refine listG (cd := cd') (af := aI) hA3 B (by omega) M2 (by rw [hgg]; exact hb.push) (Array.getElem?_push_size ..) fun D acc rows g₂ s₃ hT hb₂ M => ?_
  have hmem : ∀ p, p ∈ (Du, listS dits) :: (L + 2, cellS none) :: (L + 1, cellS kv) :: (L, nsS (look [("script", vl), ("text", .str txt t), ("runs", vr), ("due", .ref Du)])) :: drows → p ∈ (D, listS acc) :: (rows ++ ((Du, listS dits) :: (L + 2, cellS none) :: (L + 1, cellS kv) :: (L, nsS (look [("script", vl), ("text", .str txt t), ("runs", vr), ("due", .ref Du)])) :: drows)) :=
    fun p hp => .tail _ (List.mem_append.mpr (.inr hp))
  refine ldL M (hmem _ (by k_mem)) rfl (neTups (by have := hA.hu; omega) M (.head _) (hmem _ (.head _)) (fun p hp => .tail _ (List.mem_append.mpr (.inl hp))) (fun p hp => hmem p (.tail _ (.tail _ (.tail _ (.tail _ hp))))) hT hD (wpAny_truthy_bool ?_))
  rw [if_neg Bool.false_ne_true]
  refine wpAny_execs_nil ?_
  have M := (M.sub (led' := [(L + 2, cellS none), (L + 1, cellS kv), (L, nsS (look [("script", vl), ("text", .str txt t), ("runs", vr), ("due", .ref Du)]))]) (.cons _ ((List.Sublist.cons _ (.cons_cons _ (.cons_cons _ (.cons_cons _ (List.nil_sublist _))))).trans (List.sublist_append_right ..))))
  refine wpAny_execs_cons (wpAny_Assign_Name (callF2 B M (d := dFree) (by k_mem) rfl (fun aF => ldL M (by k_mem) rfl (cStr M fun u _ M => ⟨M.keep, fun F' => free_spec (B.keeps M.keep) hA2 F' (by omega) fun Mk mits s₄ hI N => ?_⟩))))
  have M := M.transG N
  refine stC M rfl (by ktr_rel) fun _ M => ?_
  have hI : IntsOf mits (freeN txt.cps.toList [34] txt.cps.size) := hI
  have hml := freeN_len txt.cps.toList [34] txt.cps.size
  generalize freeN txt.cps.toList [34] txt.cps.size = marks at hI hB hml
  refine wpAny_execs_cons (lawPairs B hA4 (by omega) hI M fun D' its prows s₅ hP M => ?_)
  exact lawC B hA4 hsz hb₂ (by rw [pairsOf_len]; omega) hP hB hC M h
end
end Mine

namespace Mine
local macro_rules | `(tactic| ktr_rel) => `(tactic| first | exact Put.head | exact Put.tail (by ktr_rel))

def signs : List Nat := [40, 41, 34, 92, 97, 32, 44]
def sgn (n : Int) : Nat := signs.getD (n.fmod 7).toNat 0
theorem sgn_at (n : Int) : ∃ m : Nat, n.fmod 7 = (m : Int) ∧ (#[40, 41, 34, 92, 97, 32, 44] : Array Nat)[m]? = some (sgn n) := by
  have h0 : 0 ≤ n.fmod 7 := Int.fmod_nonneg_of_pos _ (by decide)
  have h1 : n.fmod 7 < 7 := Int.fmod_lt_of_pos _ (by decide)
  refine ⟨(n.fmod 7).toNat, by omega, ?_⟩
  unfold sgn
  have : (n.fmod 7).toNat < 7 := by omega
  generalize (n.fmod 7).toNat = m at this
  revert m
  decide

theorem join_flat : ∀ ts : List Str, (Txt.join "" ts).cps.toList = (ts.map fun t => t.cps.toList).flatten := by
  intro ts
  show (Builtin.Str.glued "" ts).cps.toList = _
  rw [StrLaws.glued_eq_join]
  induction ts with
  | nil => rfl
  | cons x r ih =>
    cases r with
    | nil => show x.cps.toList = x.cps.toList ++ []; rw [List.append_nil]
    | cons y r =>
      show (x ++ "" ++ Str.join "" (y :: r)).cps.toList = x.cps.toList ++ _
      rw [Str.cps_append, Str.cps_append, Array.toList_append, ih]
      show (x.cps ++ #[]).toList ++ _ = _
      rw [Array.append_empty]
theorem join_singles (l : List Nat) : (Txt.join "" (l.map fun c => (⟨#[c]⟩ : Str))).cps = l.toArray := by
  apply Array.toList_inj.mp
  rw [join_flat, List.map_map]
  show (l.map fun c => [c]).flatten = l
  induction l with
  | nil => rfl
  | cons c r ih => rw [List.map_cons, List.flatten_cons, ih]; rfl

def dueStep (l : List Nat) (k : Nat) : List (Nat × Str) :=
  match l[k]? with
  | none => []
  | some c => if rns l k % 2 = 1 then [(k, ⟨#[92, c]⟩)] else if c ≠ 92 ∨ k + 1 = l.length then [(k, ⟨#[c]⟩)] else []
def dueN (l : List Nat) (n : Nat) : List (Nat × Str) := (List.range n).flatMap (dueStep l)
theorem dueN_succ (l : List Nat) (n : Nat) : dueN l (n + 1) = dueN l n ++ dueStep l n := by
  unfold dueN
  rw [List.range_succ, List.flatMap_append, List.flatMap_singleton]
theorem dueN_len (l : List Nat) : ∀ n, (dueN l n).length ≤ n
  | 0 => Nat.le_refl _
  | n + 1 => by
    rw [dueN_succ, List.length_append]
    have := dueN_len l n
    have h2 : (dueStep l n).length ≤ 1 := by
      unfold dueStep
      split
      · exact Nat.zero_le _
      · split
        · exact Nat.le_refl _
        · split
          · exact Nat.le_refl _
          · exact Nat.zero_le _
    omega

def ifBody : Stmt → List Stmt
  | .If _ b _ _ => b
  | _ => []
def ifElse : Stmt → List Stmt
  | .If _ _ b _ => b
  | _ => []
def dueApp : Stmt := (ifBody ((ifElse ((forBody (dLaw.body.getD 3 (.Pass ⟨0, 0, 0, 0⟩))).getD 0 (.Pass ⟨0, 0, 0, 0⟩))).getD 0 (.Pass ⟨0, 0, 0, 0⟩))).getD 0 (.Pass ⟨0, 0, 0, 0⟩)

section
variable {prog : Program} {w : World} {A : Around} {E : Value → Shared → Prop} {s₀ s : Shared} {g : Array GenState} {ok : Bool} {led led' : Led} {env : Env} {mg mb : Str → Option Value}
set_option maxHeartbeats 4000000

/-- the loop that builds due -/
theorem lawDue {L a Du Ru : Addr} {cd : Value} {txt : Str} {t : Tok} {rits : Array Value} {vl : Value} {kv mv : Option Value} {Q : Flow → Shared → Prop} (B : Base mg mb s₀.heap) (hA : AOk 5 A) (hsz : txt.cps.size ≤ 63)
    (hI : Ints rits txt.cps.size (fun j => rns txt.cps.toList j))
    (M : Mm s₀ g true ((Du, listS #[]) :: (Ru, listS rits) :: (L + 2, cellS mv) :: (L + 1, cellS kv) :: (L, nsS (look [("script", vl), ("text", .str txt t), ("runs", .ref Ru), ("due", .ref Du)])) :: []) s)
    (h : ∀ dits drows kv s', TupsOf dits drows (dueN txt.cps.toList txt.cps.size) → Mm s₀ g true ((Du, listS dits) :: (L + 2, cellS mv) :: (L + 1, cellS kv) :: (L, nsS (look [("script", vl), ("text", .str txt t), ("runs", .ref Ru), ("due", .ref Du)])) :: drows) s' → Q .next s') :
    wpAny (model prog w) A (exec (dLaw.body.getD 3 (.Pass ⟨0, 0, 0, 0⟩)) (lawE L a cd)) Q E s := by
  have hz : txt.length ≤ sizeLine := by show txt.cps.size ≤ _; rw [sizeLine_eq]; omega
  have hzr : rits.size ≤ sizeLine := by rw [hI.1, sizeLine_eq]; omega
  refine forE (s₀ := s₀) (g := g) (callB1 B M (by k_mem) (callB1 B M (by k_mem) (ldL M (by k_mem) rfl (lenS M hz fun _ _ M => rng1 M fun r s₄ M => itrRange hA.hh M (.head _) (small1 (by show txt.cps.size ≤ 100; omega)) (n := txt.cps.size) ?rs fun I s₅ T => ?body))))
  case rs => rw [rangeSize_one]; show (if (0 : Int) < ((txt.cps.size : Nat) : Int) then _ else _) = _; split <;> (show _ = ((txt.cps.size : Nat) : Int)) <;> (try show ((txt.cps.size : Nat) : Int) - 0 = _) <;> omega
  refine ⟨I, _, _, _, rfl, T, fun i led => i ≤ txt.cps.size ∧ ∃ (dits : Array Value) (drows : Led) (kv : Option Value), TupsOf dits drows (dueN txt.cps.toList i) ∧ led = (r, rngS 0 txt.length 1) :: (Du, listS dits) :: (Ru, listS rits) :: (L + 2, cellS mv) :: (L + 1, cellS kv) :: (L, nsS (look [("script", vl), ("text", .str txt t), ("runs", .ref Ru), ("due", .ref Du)])) :: drows,
    ⟨Nat.zero_le _, #[], [], kv, TupsOf.nil, rfl⟩, ?turn, ?done⟩
  case turn =>
    rintro i v _ fz s₆ E' hi ⟨tk, rfl⟩ ⟨-, dits, drows, kv, hT, rfl⟩ M
    rw [show (0 : Int) + (i : Int) * 1 = ((i : Nat) : Int) by omega]
    have hc : txt.cps[i]? = some (txt.cps[i]'hi) := Array.getElem?_eq_getElem hi
    generalize txt.cps[i]'hi = c at hc
    have hcl : txt.cps.toList[i]? = some c := by simpa using hc
    have hsucc := dueN_succ txt.cps.toList i
    have hlen := dueN_len txt.cps.toList i
    have hstep : dueStep txt.cps.toList i = if rns txt.cps.toList i % 2 = 1 then [(i, ⟨#[92, c]⟩)] else if c ≠ 92 ∨ i + 1 = txt.cps.toList.length then [(i, ⟨#[c]⟩)] else [] := by unfold dueStep; rw [hcl]
    have hl : txt.cps.toList.length = txt.cps.size := Array.length_toList
    have hdz : dits.size ≤ sizeLine := by rw [hT.1, sizeLine_eq]; omega
    obtain ⟨tr, htr⟩ := hI.2 i hi
    refine stC M rfl (by ktr_rel) fun _ M => ?_
    have push : ∀ (y : Str) (u : Tok) (T : Addr) s₇, dueStep txt.cps.toList i = [(i, y)] → Mm s₀ g true ((T, tupS #[.int ((i : Nat) : Int) tk, .str y u]) :: ((r, rngS 0 txt.length 1) :: (Du, listS (dits.push (.ref T))) :: (Ru, listS rits) :: (L + 2, cellS mv) :: (L + 1, cellS (some (.int ((i : Nat) : Int) tk))) :: (L, nsS (look [("script", vl), ("text", .str txt t), ("runs", .ref Ru), ("due", .ref Du)])) :: (drows ++ fz))) s₇ →
        ∃ led', (i + 1 ≤ txt.cps.size ∧ ∃ (dits : Array Value) (drows : Led) (kv : Option Value), TupsOf dits drows (dueN txt.cps.toList (i + 1)) ∧ led' = (r, rngS 0 txt.length 1) :: (Du, listS dits) :: (Ru, listS rits) :: (L + 2, cellS mv) :: (L + 1, cellS kv) :: (L, nsS (look [("script", vl), ("text", .str txt t), ("runs", .ref Ru), ("due", .ref Du)])) :: drows) ∧ Mm s₀ g true (led' ++ fz) s₇ := by
      intro y u T s₇ hs M
      refine ⟨_, ⟨hi, dits.push (.ref T), (T, tupS #[.int ((i : Nat) : Int) tk, .str y u]) :: drows, some (.int ((i : Nat) : Int) tk), ?_, rfl⟩, M.perm ?_⟩
      · rw [hsucc, hs]; exact hT.push
      · exact (List.perm_middle (l₁ := [(r, rngS 0 txt.length 1), (Du, listS (dits.push (.ref T))), (Ru, listS rits), (L + 2, cellS mv), (L + 1, cellS (some (.int ((i : Nat) : Int) tk))), (L, nsS (look [("script", vl), ("text", .str txt t), ("runs", .ref Ru), ("due", .ref Du)]))]) (l₂ := drows ++ fz)).symm
    refine wpAny_execs_cons (wpAny_If (wpAny_isTrue_Compare1 (wpAny_BinOp (Subscript_ (ldL M (by k_mem) rfl (ldC M rfl (by k_mem) (itL M (by k_mem) htr hzr (cInt M fun _ _ M => modI M (by decide) fun _ _ M => cInt M fun _ _ M => P.eq_int (wpAny_truthy_bool ?_)))))))))
    have e : (Int.fmod ((rns txt.cps.toList i : Nat) : Int) 2 == 1) = decide (rns txt.cps.toList i % 2 = 1) := by
      rw [Int.fmod_eq_emod_of_nonneg _ (by decide)]
      by_cases h1 : rns txt.cps.toList i % 2 = 1
      · rw [decide_eq_true h1]; simp; omega
      · rw [decide_eq_false h1]; simp; omega
    rw [e]
    by_cases hodd : rns txt.cps.toList i % 2 = 1
    · rw [decide_eq_true hodd, if_pos rfl]
      rw [if_pos hodd] at hstep
      refine wpAny_execs_cons (wpAny_Expr (wpAny_Call_append rfl rfl rfl rfl (ldL M (by k_mem) rfl ⟨Du, _, rfl, list_of M (by k_mem), ?_⟩)))
      refine Tup2 (ldC M rfl (by k_mem) (wpAny_BinOp (cStr M fun _ _ M => Subscript_ (ldL M (by k_mem) rfl (ldC M rfl (by k_mem) (itS M hc hz fun _ _ M => addS M (by rw [sizeLine_eq]; exact (by decide : (1 : Nat) + 1 ≤ 16777216)) fun u _ M => newTup M fun T _ M => appendM M (by ktr_rel) hdz fun _ M => wpAny_execs_nil (wpAny_execs_nil ?_)))))))
      exact push _ u T _ hstep M
    · rw [decide_eq_false hodd, if_neg Bool.false_ne_true]
      rw [if_neg hodd] at hstep
      have app : ∀ s₇, (c ≠ 92 ∨ i + 1 = txt.cps.toList.length) → Mm s₀ g true (((r, rngS 0 txt.length 1) :: (Du, listS dits) :: (Ru, listS rits) :: (L + 2, cellS mv) :: (L + 1, cellS (some (.int ((i : Nat) : Int) tk))) :: (L, nsS (look [("script", vl), ("text", .str txt t), ("runs", .ref Ru), ("due", .ref Du)])) :: (drows ++ fz))) s₇ →
          wpAny (model prog w) A (execs [dueApp] (lawE L a cd)) (fun f s₃ => match f with
            | .next | .cont => ∃ led', (i + 1 ≤ txt.cps.size ∧ ∃ (dits : Array Value) (drows : Led) (kv : Option Value), TupsOf dits drows (dueN txt.cps.toList (i + 1)) ∧ led' = (r, rngS 0 txt.length 1) :: (Du, listS dits) :: (Ru, listS rits) :: (L + 2, cellS mv) :: (L + 1, cellS kv) :: (L, nsS (look [("script", vl), ("text", .str txt t), ("runs", .ref Ru), ("due", .ref Du)])) :: drows) ∧ Mm s₀ g true (led' ++ fz) s₃
            | .brk => False
            | .ret _ => False) E' s₇ := by
        intro s₇ hor M
        rw [if_pos hor] at hstep
        refine wpAny_execs_cons (wpAny_Expr (wpAny_Call_append rfl rfl rfl rfl (ldL M (by k_mem) rfl ⟨Du, _, rfl, list_of M (by k_mem), ?_⟩)))
        refine Tup2 (ldC M rfl (by k_mem) (Subscript_ (ldL M (by k_mem) rfl (ldC M rfl (by k_mem) (itS M hc hz fun u _ M => newTup M fun T _ M => appendM M (by ktr_rel) hdz fun _ M => wpAny_execs_nil ?_)))))
        exact push _ u T _ hstep M
      refine wpAny_execs_cons (wpAny_If (isTrue_or (wpAny_isTrue_Compare1 (Subscript_ (ldL M (by k_mem) rfl (ldC M rfl (by k_mem) (itS M hc hz fun _ _ M => cStr M fun _ _ M => PyProof.Rows.ne_str (wpAny_truthy_bool ?_))))))))
      rw [bne, sgn_eq (x := "\\") (k := 92) rfl]
      by_cases hb : c = 92
      · rw [decide_eq_true hb, Bool.not_true, if_neg Bool.false_ne_true]
        refine isTrue_or (wpAny_isTrue_Compare1 (ldC M rfl (by k_mem) (wpAny_BinOp (callB1 B M (by k_mem) (ldL M (by k_mem) rfl (lenS M hz fun _ _ M => cInt M fun _ _ M => subI M fun _ _ M => P.eq_int (wpAny_truthy_bool ?_)))))))
        have e2 : (((i : Nat) : Int) == ((txt.length : Nat) : Int) - 1) = decide (i + 1 = txt.cps.toList.length) := by
          have : txt.length = txt.cps.size := rfl
          by_cases h1 : i + 1 = txt.cps.toList.length
          · rw [decide_eq_true h1]; simp; omega
          · rw [decide_eq_false h1]; simp; omega
        rw [e2]
        by_cases hlast : i + 1 = txt.cps.toList.length
        · rw [decide_eq_true hlast, if_pos rfl, if_pos rfl]
          refine wpAny_mono (app _ (.inr hlast) M) (fun f s' hf => ?_) fun _ _ e => e
          cases f with
          | next => exact wpAny_execs_nil (wpAny_execs_nil hf)
          | cont => exact hf
          | brk => exact hf.elim
          | ret v => exact hf.elim
        · rw [decide_eq_false hlast, if_neg Bool.false_ne_true]
          refine isTrue_or_nil ?_
          rw [if_neg Bool.false_ne_true]
          rw [if_neg (fun h => h.elim (fun h => h hb) hlast)] at hstep
          refine wpAny_execs_nil (wpAny_execs_nil (wpAny_execs_nil ?_))
          refine ⟨_, ⟨hi, dits, drows, some (.int ((i : Nat) : Int) tk), ?_, rfl⟩, M⟩
          rw [hsucc, hstep, List.append_nil]; exact hT
      · rw [decide_eq_false hb, Bool.not_false, if_pos rfl, if_pos rfl]
        refine wpAny_mono (app _ (.inl hb) M) (fun f s' hf => ?_) fun _ _ e => e
        cases f with
        | next => exact wpAny_execs_nil (wpAny_execs_nil hf)
        | cont => exact hf
        | brk => exact hf.elim
        | ret v => exact hf.elim
  case done =>
    rintro _ s' ⟨-, dits, drows, kv, hT, rfl⟩ M
    refine h dits drows kv s' hT (M.sub ?_)
    exact .cons _ (.cons_cons _ (.cons _ (List.Sublist.refl _)))
end
end Mine

namespace Mine
local macro_rules | `(tactic| ktr_rel) => `(tactic| first | exact Put.head | exact Put.tail (by ktr_rel))

section
variable {prog : Program} {w : World} {A : Around} {E : Value → Shared → Prop} {s₀ s : Shared} {g : Array GenState} {ok : Bool} {led led' : Led} {env : Env} {mg mb : Str → Option Value}
set_option maxHeartbeats 4000000

/-- what is asked of texts in plain lists -/
structure Plain (l : List Nat) : Prop where
  due : dueN l l.length = escRest 0 false l
  strip : (stripOut ⟨l.toArray⟩).cps = (restN l (pairsOf (freeN l [34] l.length)) l.length).toArray
  par : ∀ r : List Nat, (stripOut ⟨l.toArray⟩).cps = r.toArray → checkGo 0 (escRest 0 false r) = (decide ((parSt r (freeN r [40, 41] r.length) (freeN r [40, 41] r.length).length).2 = 0) && decide ((parSt r (freeN r [40, 41] r.length) (freeN r [40, 41] r.length).length).1 = 0))

theorem law_spec {a l : Addr} {vs : List Value} {ns : List Int} {Q : Value → Shared → Prop} (B : Base mg mb s.heap) (hA : AOk 6 A) (F : FnAt dLaw a s.heap) (hL : s.heap.IsList l vs.toArray) (hI : IntsAre vs ns) (hsz : ns.length ≤ 63) (hb : Bare s.gens)
    (hpl : Plain (ns.map sgn)) (h : ∀ g' s', Bare g' → Mm s g' true [] s' → Q (.bool true) s') : wpAny (model prog w) A (call (.ref a) [.ref l]) Q E s := by
  refine fnCallC F B.nl (by have := hA.hd; omega) (binds := [("script", .ref l)]) (cs := fun L => [("marks", L + 2), ("k", L + 1)]) (lm := [("script", .ref l)]) (fun _ _ _ => rfl) (fun _ => rfl) (fun _ => (by decide : (["marks", "k"] : List Str).Nodup)) (by simp; exact .inl rfl) (fun _ _ _ => rfl) (fun L cd s₁ M => ?_)
  have M : Mm s s.gens true [(L + 2, cellS none), (L + 1, cellS none), (L, nsS (look [("script", .ref l)]))] s₁ := M
  have hA5 : AOk 5 (A.deeper (lawE L a cd)) := hA.deeper
  have hA1 := hA5.less (m := 1) (by omega)
  show wpAny _ (A.deeper (lawE L a cd)) (execs dLaw.body (lawE L a cd)) _ _ _
  have hvl : vs.toArray.size = ns.length := by have := hI.sizeZ; omega
  obtain ⟨ol, hol, hlx⟩ := id hL
  refine wpAny_execs_cons (wpAny_Assign_Name (joinE M (ListCompE (s₀ := s) (g := s.gens) (cl := []) rfl (by decide) rfl (by decide) rfl (ldL M.tok (by k_mem) rfl (itrList hA5.hh M.tok ⟨ol, M.keep _ _ hol, hlx⟩ ⟨ol, hol⟩ fun I s₂ T => ?_)))))
  refine ⟨I, _, _, _, rfl, T, fun i its led => i ≤ ns.length ∧ (∃ ll : List (Str × Tok), its = (strValues ll).toArray ∧ ll.map (·.1) = (ns.take i).map fun n => (⟨#[sgn n]⟩ : Str)) ∧ led = [(L + 2, cellS none), (L + 1, cellS none), (L, nsS (look [("script", .ref l)]))], ⟨Nat.zero_le _, ⟨[], rfl, rfl⟩, rfl⟩, ?_, ?_, ?_⟩
  · rintro i its _ ⟨hi, ⟨ll, rfl, hll⟩, -⟩
    have := congrArg List.length hll
    rw [List.length_map, List.length_map, List.length_take] at this
    rw [List.size_toArray, strValues, List.length_map, sizeLine_eq]; omega
  · rintro C D i v its _ fz lc s₆ E' hi hv ⟨-, ⟨ll, rfl, hll⟩, rfl⟩ hl M
    obtain ⟨n, tn, rfl, hn⟩ := hI.at i v (by simpa using hv)
    have hin : i < ns.length := (List.getElem?_eq_some_iff.mp hn).1
    obtain ⟨m, hm, hc⟩ := sgn_at n
    refine ifs0 ?_
    rw [if_pos rfl]
    refine Subscript_ (cStr M fun _ _ M => wpAny_BinOp (ldL M (by k_mem) hl (cInt M fun _ _ M => modI M (by decide) fun _ _ M => ?_)))
    rw [hm]
    refine itS M hc (by rw [sizeLine_eq]; exact (by decide : (7 : Nat) ≤ 16777216)) fun u _ M => ⟨_, ⟨hin, ⟨ll ++ [(⟨#[sgn n]⟩, u)], ?_, ?_⟩, rfl⟩, M⟩
    · rw [List.push_toArray, strValues, strValues, List.map_append]; rfl
    · rw [List.map_append, hll, List.take_add_one, hn, List.map_append]; rfl
  · rintro D its _ s₃ ⟨-, ⟨ll, rfl, hll⟩, rfl⟩ M
    rw [hvl, List.take_length] at hll
    have hjt : Txt.join "" (ll.map (·.1)) = ⟨(ns.map sgn).toArray⟩ := by
      rw [hll]
      apply Str.ext'
      have := join_singles (ns.map sgn)
      rw [List.map_map] at this
      exact this
    refine ⟨D, ll, _, rfl, M, .head _, ?_, fun t s₄ M => ?_⟩
    · unfold JoinOk
      rw [Bool.not_eq_true', StrLaws.joinFits (B := 1)]
      · rw [hll]; intro y hy; obtain ⟨n, _, rfl⟩ := List.mem_map.mp hy; exact Nat.le_refl _
      · rw [hll, List.length_map]; show ns.length * 1 + ns.length * 0 ≤ _; omega
    rw [hjt]
    have hlen : (ns.map sgn).length ≤ 63 := by rw [List.length_map]; exact hsz
    generalize ns.map sgn = tl at hpl hlen
    clear hjt hll
    have M := M.tail
    refine stL M (by ktr_rel) fun _ M => ?_
    have hts : (⟨tl.toArray⟩ : Str).cps.size = tl.length := List.size_toArray
    have htl : (⟨tl.toArray⟩ : Str).cps.toList = tl := rfl
    refine wpAny_execs_cons (wpAny_Assign_Name (callF1 B M (d := dAhead) (by k_mem) rfl (fun aA => ldL M (by k_mem) rfl ⟨M.keep, fun F' => ahead_spec (B.keeps M.keep) hA1 F' (by rw [hts]; omega) fun Ru rits s₅ hR N => ?_⟩)))
    have M := M.transG N
    refine stL M (by ktr_rel) fun _ M => ?_
    refine wpAny_execs_cons (wpAny_Assign_Name (Lst0 (newLst M fun Du _ M => stL M (by ktr_rel) fun _ M => ?_)))
    refine wpAny_execs_cons (lawDue B hA5 (by rw [hts]; exact hlen) hR M fun dits drows kv s₆ hT M => ?_)
    rw [hts, htl, hpl.due] at hT
    exact lawB (txt := ⟨tl.toArray⟩) (Q := fun f s' => Q (match f with | .ret v => v | _ => .none) s') B hA5 (by rw [hts]; exact hlen) hb hT (by rw [hts]; exact hpl.strip) hpl.par M h
end
end Mine

namespace Mine

/-! ## the plain law -/
theorem drop_cons {l r : List Nat} {i c : Nat} (h : l.drop i = c :: r) : l[i]? = some c ∧ l.drop (i + 1) = r ∧ i + 1 + r.length = l.length := by
  have h0 : l[i]? = some c := by
    have := congrArg (fun l => l[0]?) h
    simpa using this
  refine ⟨h0, ?_, ?_⟩
  · have := congrArg List.tail h
    rwa [List.tail_drop] at this
  · have := congrArg List.length h
    rw [List.length_drop, List.length_cons] at this
    have := (List.getElem?_eq_some_iff.mp h0).1
    omega

def oddB (n : Nat) : Bool := decide (n % 2 = 1)
theorem oddB_step (l : List Nat) {i c : Nat} (h : l[i]? = some c) : oddB (rns l (i + 1)) = if oddB (rns l i) = true then false else decide (c = 92) := by
  rw [rns_succ h]
  unfold stepRun oddB
  by_cases hc : c = 92
  · rw [if_pos hc, decide_eq_true hc]
    by_cases ho : rns l i % 2 = 1
    · rw [decide_eq_true ho, if_pos rfl]; exact decide_eq_false (by omega)
    · rw [decide_eq_false ho, if_neg Bool.false_ne_true]; exact decide_eq_true (by omega)
  · rw [if_neg hc, decide_eq_false hc]
    split <;> rfl

theorem escRest_cons (i : Nat) (esc : Bool) (c : Nat) (r : List Nat) : escRest i esc (c :: r) = if esc = true then (i, ⟨#[92, c]⟩) :: escRest (i + 1) false r else if c = 92 then escRest (i + 1) true r else (i, ⟨#[c]⟩) :: escRest (i + 1) false r := rfl

theorem due_go (l : List Nat) : ∀ (r : List Nat) (i : Nat), l.drop i = r → (r = [] → oddB (rns l i) = false) → (List.range' i r.length).flatMap (dueStep l) = escRest i (oddB (rns l i)) r := by
  intro r
  induction r with
  | nil => intro i _ he; rw [he rfl]; rfl
  | cons c r ih =>
    intro i hr _
    obtain ⟨hc, hr', hlen⟩ := drop_cons hr
    rw [List.length_cons, List.range'_succ, List.flatMap_cons, escRest_cons]
    have hst := oddB_step l hc
    have hd : dueStep l i = if rns l i % 2 = 1 then [(i, ⟨#[92, c]⟩)] else if c ≠ 92 ∨ i + 1 = l.length then [(i, ⟨#[c]⟩)] else [] := by unfold dueStep; rw [hc]
    by_cases ho : rns l i % 2 = 1
    · have hob : oddB (rns l i) = true := decide_eq_true ho
      rw [hob, if_pos rfl] at hst
      rw [hd, if_pos ho, hob, if_pos rfl, ih (i + 1) hr' (fun _ => hst), hst]; rfl
    · have hob : oddB (rns l i) = false := decide_eq_false ho
      rw [hob, if_neg Bool.false_ne_true] at hst
      rw [hd, if_neg ho, hob, if_neg Bool.false_ne_true]
      by_cases h92 : c = 92
      · rw [if_pos h92]
        rw [decide_eq_true h92] at hst
        cases r with
        | nil =>
          have : i + 1 = l.length := by simpa using hlen
          rw [if_pos (.inr this), h92]; rfl
        | cons c' r' =>
          rw [if_neg (fun h => h.elim (fun h => h h92) (fun h => by rw [List.length_cons] at hlen; omega)), List.nil_append, ih (i + 1) hr' (fun h => nomatch h), hst]
      · rw [if_neg h92, if_pos (.inl h92)]
        rw [decide_eq_false h92] at hst
        rw [ih (i + 1) hr' (fun _ => hst), hst]; rfl

theorem plain_due (l : List Nat) : dueN l l.length = escRest 0 false l := by
  have := due_go l l 0 rfl (fun _ => rfl)
  unfold dueN
  rw [List.range_eq_range']
  exact this

/-- what is yielded with a sign that no backslash stands ahead of -/
theorem esc_filter (l : List Nat) (q : Str → Bool) (h1 : ∀ c, q ⟨#[92, c]⟩ = false) (h2 : q ⟨#[92]⟩ = false) : ∀ (r : List Nat) (i : Nat), l.drop i = r →
    (escRest i (oddB (rns l i)) r).filter (fun y => q y.2) = ((List.range' i r.length).filter fun k => (match l[k]? with | some c => q ⟨#[c]⟩ | none => false) && decide (rns l k % 2 = 0)).map fun k => (k, (⟨#[l.getD k 0]⟩ : Str)) := by
  intro r
  induction r with
  | nil =>
    intro i _
    show (if oddB (rns l i) then [(i - 1, (⟨#[92]⟩ : Str))] else []).filter _ = []
    split
    · simp [h2]
    · rfl
  | cons c r ih =>
    intro i hr
    obtain ⟨hc, hr', hlen⟩ := drop_cons hr
    have ih := ih (i + 1) hr'
    have hst := oddB_step l hc
    have hg : l.getD i 0 = c := by rw [List.getD_eq_getElem?_getD, hc]; rfl
    rw [List.length_cons, List.range'_succ, escRest_cons, List.filter_cons, hc]
    by_cases ho : rns l i % 2 = 1
    · have hob : oddB (rns l i) = true := decide_eq_true ho
      rw [hob, if_pos rfl] at hst
      rw [hst] at ih
      rw [hob, if_pos rfl, List.filter_cons, h1, if_neg Bool.false_ne_true, ih, decide_eq_false (show ¬ rns l i % 2 = 0 by omega), Bool.and_false, if_neg Bool.false_ne_true]
    · have hob : oddB (rns l i) = false := decide_eq_false ho
      rw [hob, if_neg Bool.false_ne_true] at hst
      rw [hst] at ih
      rw [hob, if_neg Bool.false_ne_true, decide_eq_true (show rns l i % 2 = 0 by omega), Bool.and_true]
      by_cases h92 : c = 92
      · rw [decide_eq_true h92] at ih
        rw [if_pos h92, ih, h92]
        rw [show ((match (some 92 : Option Nat) with | some c => q ⟨#[c]⟩ | none => false)) = false from h2, if_neg Bool.false_ne_true]
      · rw [decide_eq_false h92] at ih
        rw [if_neg h92, List.filter_cons, ih]
        show (if q ⟨#[c]⟩ = true then _ else _) = _
        cases hq : q ⟨#[c]⟩ with
        | true => rw [if_pos rfl]; show _ = List.map _ (if q ⟨#[c]⟩ = true then _ else _); rw [hq, if_pos rfl, List.map_cons, hg]
        | false => rw [if_neg Bool.false_ne_true]; show _ = List.map _ (if q ⟨#[c]⟩ = true then _ else _); rw [hq, if_neg Bool.false_ne_true]
end Mine

namespace Mine

theorem checkGo_cons (o : Int) (p : Nat) (x : Str) (r : List (Nat × Str)) : checkGo o ((p, x) :: r) = if (x == ("(" : Str)) = true then checkGo (o + 1) r else if (x == (")" : Str)) = true then (if o - 1 < 0 then false else checkGo (o - 1) r) else checkGo o r := rfl
def qpar (x : Str) : Bool := x == ("(" : Str) || x == (")" : Str)
theorem checkGo_filter : ∀ (X : List (Nat × Str)) (o : Int), checkGo o X = checkGo o (X.filter fun y => qpar y.2)
  | [], _ => rfl
  | (p, x) :: r, o => by
    rw [checkGo_cons, List.filter_cons]
    show _ = checkGo o (if qpar x = true then _ else _)
    unfold qpar
    cases h1 : (x == ("(" : Str)) with
    | true =>
      rw [if_pos rfl, Bool.true_or, if_pos rfl, checkGo_cons, h1, if_pos rfl]
      exact checkGo_filter r _
    | false =>
      rw [if_neg Bool.false_ne_true, Bool.false_or]
      cases h2 : (x == (")" : Str)) with
      | true =>
        rw [if_pos rfl, if_pos rfl, checkGo_cons, h1, if_neg Bool.false_ne_true, h2, if_pos rfl]
        rw [checkGo_filter r]; rfl
      | false =>
        rw [if_neg Bool.false_ne_true, if_neg Bool.false_ne_true]
        exact checkGo_filter r _

theorem par_least (l : List Nat) : ∀ (ks : List Nat) (d m : Int), (ks.foldl (parStep l) (d, m)).2 ≤ m
  | [], _, _ => Int.le_refl _
  | k :: ks, d, m => by
    rw [List.foldl_cons]
    unfold parStep
    refine Int.le_trans (par_least l ks _ _) ?_
    split <;> omega

theorem par_go (l : List Nat) : ∀ (ks : List Nat) (d : Int), 0 ≤ d → (∀ k ∈ ks, l[k]? = some 40 ∨ l[k]? = some 41) →
    checkGo d (ks.map fun k => (k, (⟨#[l.getD k 0]⟩ : Str))) = (decide ((ks.foldl (parStep l) (d, 0)).2 = 0) && decide ((ks.foldl (parStep l) (d, 0)).1 = 0))
  | [], d, _, _ => by
    show decide (d = 0) = (decide ((0 : Int) = 0) && decide (d = 0))
    rw [decide_eq_true rfl, Bool.true_and]
  | k :: ks, d, hd, hk => by
    rw [List.map_cons, checkGo_cons, List.foldl_cons]
    have ih := fun d' h => par_go l ks d' h (fun k hk' => hk k (.tail _ hk'))
    rcases hk k (.head _) with h | h
    · have hg : l.getD k 0 = 40 := by rw [List.getD_eq_getElem?_getD, h]; rfl
      rw [hg, show ((⟨#[40]⟩ : Str) == ("(" : Str)) = true from rfl, if_pos rfl, ih _ (by omega)]
      have : parStep l (d, 0) k = (d + 1, 0) := by
        unfold parStep
        rw [h, if_pos rfl]
        show (d + 1, if d + 1 < 0 then d + 1 else 0) = _
        rw [if_neg (by omega)]
      rw [this]
    · have hg : l.getD k 0 = 41 := by rw [List.getD_eq_getElem?_getD, h]; rfl
      rw [hg, show ((⟨#[41]⟩ : Str) == ("(" : Str)) = false from rfl, if_neg Bool.false_ne_true, show ((⟨#[41]⟩ : Str) == (")" : Str)) = true from rfl, if_pos rfl]
      have hp : parStep l (d, 0) k = (d - 1, if d - 1 < 0 then d - 1 else 0) := by
        unfold parStep
        rw [h, if_neg (by decide)]
        show (d + (0 - 1), if d + (0 - 1) < 0 then d + (0 - 1) else 0) = _
        rw [show d + (0 - 1) = d - 1 by omega]
      rw [hp]
      by_cases hn : d - 1 < 0
      · rw [if_pos hn, if_pos hn]
        have := par_least l ks (d - 1) (d - 1)
        rw [decide_eq_false (show ¬ (ks.foldl (parStep l) (d - 1, d - 1)).2 = 0 by omega), Bool.false_and]
      · rw [if_neg hn, if_neg hn]
        exact ih _ (by omega)

theorem qpar_one (c : Nat) : qpar ⟨#[c]⟩ = decide (c ∈ [40, 41]) := by
  unfold qpar
  rw [sgn_eq (x := "(") (k := 40) rfl, sgn_eq (x := ")") (k := 41) rfl]
  simp

theorem len_ne {x y : Str} (h : x.cps.size ≠ y.cps.size) : (x == y) = false := by
  rw [beq_eq_false_iff_ne]
  intro e
  exact h (by rw [e])

theorem two_ne {c k : Nat} : ((⟨#[92, c]⟩ : Str) == (⟨#[k]⟩ : Str)) = false := len_ne (x := ⟨#[92, c]⟩) (y := ⟨#[k]⟩) (show (2 : Nat) ≠ 1 by decide)
theorem qpar_two (c : Nat) : qpar ⟨#[92, c]⟩ = false := by
  have h1 : ((⟨#[92, c]⟩ : Str) == ("(" : Str)) = false := two_ne (k := 40)
  have h2 : ((⟨#[92, c]⟩ : Str) == (")" : Str)) = false := two_ne (k := 41)
  unfold qpar
  rw [h1, h2]; rfl

theorem free_filter (l sg : List Nat) (q : Str → Bool) (h : ∀ c, q ⟨#[c]⟩ = decide (c ∈ sg)) (h1 : ∀ c, q ⟨#[92, c]⟩ = false) (h2 : q ⟨#[92]⟩ = false) :
    (escRest 0 false l).filter (fun y => q y.2) = (freeN l sg l.length).map fun k => (k, (⟨#[l.getD k 0]⟩ : Str)) := by
  have := esc_filter l q h1 h2 l 0 rfl
  rw [show oddB (rns l 0) = false from rfl] at this
  rw [this]
  unfold freeN
  rw [List.range_eq_range']
  congr 1
  refine List.filter_congr fun k _ => ?_
  unfold freeP
  cases l[k]? with
  | none => rfl
  | some c => show (q ⟨#[c]⟩ && _) = _; rw [h c]

theorem plain_par (r : List Nat) : checkGo 0 (escRest 0 false r) = (decide ((parSt r (freeN r [40, 41] r.length) (freeN r [40, 41] r.length).length).2 = 0) && decide ((parSt r (freeN r [40, 41] r.length) (freeN r [40, 41] r.length).length).1 = 0)) := by
  rw [checkGo_filter, free_filter r [40, 41] qpar qpar_one qpar_two rfl]
  unfold parSt
  rw [List.take_length]
  refine par_go r _ 0 (Int.le_refl _) fun k hk => ?_
  unfold freeN at hk
  have := (List.mem_filter.mp hk).2
  unfold freeP at this
  rw [Bool.and_eq_true] at this
  cases hc : r[k]? with
  | none => rw [hc] at this; exact absurd this.1 (by simp)
  | some c =>
    rw [hc] at this
    have h : c ∈ [40, 41] := of_decide_eq_true this.1
    simp only [List.mem_cons, List.not_mem_nil, or_false] at h
    rcases h with rfl | rfl
    · exact .inl rfl
    · exact .inr rfl
end Mine

namespace Mine

def out (l : List Nat) : Nat → List Nat → List Nat
  | start, o :: c :: r => (l.drop start).take (o - start) ++ out l (c + 1) r
  | start, _ => l.drop start
def pairs2 : List Nat → List (Nat × Nat)
  | o :: c :: r => (o, c) :: pairs2 r
  | _ => []
theorem pairsOf_two (o c : Nat) (r : List Nat) : pairsOf (o :: c :: r) = (o, c) :: pairsOf r := by
  unfold pairsOf
  rw [show (o :: c :: r).length / 2 = r.length / 2 + 1 by simp only [List.length_cons]; omega, List.range_succ_eq_map, List.map_cons, List.map_map]
  have h : ∀ (x y : List (Nat × Nat)), x = y → (o, c) :: x = (o, c) :: y := fun _ _ e => by rw [e]
  refine h _ _ (List.map_congr_left fun j _ => ?_)
  show ((o :: c :: r).getD (2 * (j + 1)) 0, (o :: c :: r).getD (2 * (j + 1) + 1) 0) = _
  rw [show 2 * (j + 1) = 2 * j + 1 + 1 by omega]
  rfl
theorem pairsOf_eq : ∀ m : List Nat, pairsOf m = pairs2 m
  | [] => rfl
  | [a] => by unfold pairsOf; simp [pairs2]
  | o :: c :: r => by rw [pairsOf_two, pairsOf_eq r]; rfl
theorem pairs2_mem : ∀ (m : List Nat) (p : Nat × Nat), p ∈ pairs2 m → p.1 ∈ m
  | [], p, h => nomatch h
  | [_], p, h => nomatch h
  | o :: c :: r, p, h => by
    rcases List.mem_cons.mp h with rfl | h
    · exact .head _
    · exact .tail _ (.tail _ (pairs2_mem r p h))

theorem seg_flat (l : List Nat) : ∀ (m a : Nat), (List.range' a m).flatMap (fun k => l[k]?.toList) = (l.drop a).take m
  | 0, a => by simp
  | m + 1, a => by
    rw [List.range'_succ, List.flatMap_cons, seg_flat l m (a + 1)]
    cases h : l[a]? with
    | none =>
      have : l.length ≤ a := List.getElem?_eq_none_iff.mp h
      rw [List.drop_eq_nil_of_le this, List.drop_eq_nil_of_le (by omega)]; simp
    | some c =>
      obtain ⟨hlt, hc⟩ := List.getElem?_eq_some_iff.mp h
      rw [List.drop_eq_getElem_cons hlt, hc, List.take_succ_cons]; rfl

theorem rest_out (l : List Nat) : ∀ (m : List Nat) (a : Nat), m.Pairwise (· < ·) → (∀ k ∈ m, a ≤ k ∧ k < l.length) → a ≤ l.length →
    (List.range' a (l.length - a)).flatMap (fun k => if (pairs2 m).any (cov k) = true then [] else l[k]?.toList) = out l a m
  | [], a, _, _, _ => by
    show (List.range' a (l.length - a)).flatMap (fun k => if false = true then [] else l[k]?.toList) = l.drop a
    simp only [Bool.false_eq_true, if_false]
    rw [seg_flat, List.take_of_length_le (by rw [List.length_drop]; exact Nat.le_refl _)]
  | [_], a, _, _, _ => by
    show (List.range' a (l.length - a)).flatMap (fun k => if false = true then [] else l[k]?.toList) = l.drop a
    simp only [Bool.false_eq_true, if_false]
    rw [seg_flat, List.take_of_length_le (by rw [List.length_drop]; exact Nat.le_refl _)]
  | o :: c :: r, a, hp, hm, ha => by
    rw [List.pairwise_cons, List.pairwise_cons] at hp
    obtain ⟨hp1, hp2, hp3⟩ := hp
    have ho := hm o (.head _)
    have hc := hm c (.tail _ (.head _))
    have hoc := hp1 c (.head _)
    have ih := rest_out l r (c + 1) hp3 (fun k hk => ⟨hp2 k hk, (hm k (.tail _ (.tail _ hk))).2⟩) (by omega)
    have e1 : List.range' a (l.length - a) = List.range' a (o - a) ++ (List.range' o (c + 1 - o) ++ List.range' (c + 1) (l.length - (c + 1))) := by
      have h1 := List.range'_append (s := o) (m := c + 1 - o) (n := l.length - (c + 1)) (step := 1)
      rw [show o + 1 * (c + 1 - o) = c + 1 by omega] at h1
      have h2 := List.range'_append (s := a) (m := o - a) (n := c + 1 - o + (l.length - (c + 1))) (step := 1)
      rw [show a + 1 * (o - a) = o by omega] at h2
      rw [h1, h2]
      congr 1; omega
    rw [e1, List.flatMap_append, List.flatMap_append]
    show _ = (l.drop a).take (o - a) ++ out l (c + 1) r
    rw [← ih, ← seg_flat l (o - a) a]
    have f1 : (List.range' a (o - a)).flatMap (fun k => if (pairs2 (o :: c :: r)).any (cov k) = true then [] else l[k]?.toList) = (List.range' a (o - a)).flatMap (fun k => l[k]?.toList) := by
      refine congrArg List.flatten (List.map_congr_left fun k hk => ?_)
      have hk2 := List.mem_range'_1.mp hk
      rw [if_neg]
      rw [Bool.not_eq_true, List.any_eq_false]
      intro p hpm
      have hpk : k < p.1 := by
        have := pairs2_mem _ _ hpm
        rcases List.mem_cons.mp this with h | h
        · rw [h]; omega
        · rcases List.mem_cons.mp h with h | h
          · rw [h]; omega
          · have := hp2 _ h; omega
      unfold cov
      rw [decide_eq_false (show ¬ p.1 ≤ k by omega), Bool.false_and]; exact Bool.false_ne_true
    have f2 : (List.range' o (c + 1 - o)).flatMap (fun k => if (pairs2 (o :: c :: r)).any (cov k) = true then [] else l[k]?.toList) = [] := by
      rw [List.flatMap_eq_nil_iff]
      intro k hk
      have hk2 := List.mem_range'_1.mp hk
      rw [if_pos]
      show (cov k (o, c) || _) = true
      have : cov k (o, c) = true := by unfold cov; rw [decide_eq_true (show o ≤ k by omega), decide_eq_true (show k ≤ c by omega)]; rfl
      rw [this, Bool.true_or]
    have f3 : (List.range' (c + 1) (l.length - (c + 1))).flatMap (fun k => if (pairs2 (o :: c :: r)).any (cov k) = true then [] else l[k]?.toList) = (List.range' (c + 1) (l.length - (c + 1))).flatMap (fun k => if (pairs2 r).any (cov k) = true then [] else l[k]?.toList) := by
      refine congrArg List.flatten (List.map_congr_left fun k hk => ?_)
      have hk2 := List.mem_range'_1.mp hk
      have : cov k (o, c) = false := by unfold cov; rw [decide_eq_false (show ¬ k ≤ c by omega), Bool.and_false]
      show (if (cov k (o, c) || (pairs2 r).any (cov k)) = true then _ else _) = _
      rw [this, Bool.false_or]
    rw [f1, f2, f3, List.nil_append]

theorem marks_pair (l : List Nat) (sg : List Nat) (n : Nat) : (freeN l sg n).Pairwise (· < ·) := by
  unfold freeN
  exact List.Pairwise.filter _ List.pairwise_lt_range

theorem restN_out (l : List Nat) : restN l (pairsOf (freeN l [34] l.length)) l.length = out l 0 (freeN l [34] l.length) := by
  unfold restN
  rw [pairsOf_eq, List.range_eq_range']
  exact rest_out l _ 0 (marks_pair _ _ _) (fun k hk => ⟨Nat.zero_le _, freeN_lt hk⟩) (Nat.zero_le _)
end Mine

namespace Mine

def qquo (x : Str) : Bool := x == ("\"" : Str)
theorem strip_filter (txt : Str) : ∀ (X : List (Nat × Str)) (st : Nat × Option Nat × List Str), X.foldl (stripStep txt) st = (X.filter fun y => qquo y.2).foldl (stripStep txt) st
  | [], _ => rfl
  | (p, x) :: r, st => by
    rw [List.foldl_cons, List.filter_cons]
    show _ = List.foldl _ _ (if qquo x = true then _ else _)
    unfold qquo
    cases hx : (x == ("\"" : Str)) with
    | true => rw [if_pos rfl, List.foldl_cons]; exact strip_filter txt r _
    | false =>
      rw [if_neg Bool.false_ne_true]
      have : stripStep txt st (p, x) = st := by unfold stripStep; rw [hx, if_neg Bool.false_ne_true]
      rw [this]
      exact strip_filter txt r _

def flat (ts : List Str) : List Nat := (ts.map fun t => t.cps.toList).flatten
theorem flat_append (a b : List Str) : flat (a ++ b) = flat a ++ flat b := by unfold flat; rw [List.map_append, List.flatten_append]
theorem slice_mid (l : List Nat) {a b : Nat} (hab : a ≤ b) (hb : b ≤ l.length) : (Txt.slice ⟨l.toArray⟩ (some (a : Int)) (some (b : Int))).cps.toList = (l.drop a).take (b - a) := by
  have := StrLaws.sliceText_nat (⟨l.toArray⟩ : Str) hab (by show b ≤ l.toArray.size; rw [List.size_toArray]; exact hb)
  have e : Txt.slice ⟨l.toArray⟩ (some (a : Int)) (some (b : Int)) = StrLaws.sliceText ⟨l.toArray⟩ (some (a : Int)) (some (b : Int)) := rfl
  rw [e, this]
theorem slice_end (l : List Nat) {a : Nat} (ha : a ≤ l.length) : (Txt.slice ⟨l.toArray⟩ (some (a : Int)) none).cps.toList = l.drop a := by
  have := StrLaws.sliceText_from (x := ⟨l.toArray⟩) (i := (a : Int)) ⟨by omega, by show (a : Int) ≤ (l.length : Int); omega⟩
  have e : Txt.slice ⟨l.toArray⟩ (some (a : Int)) none = StrLaws.sliceText ⟨l.toArray⟩ (some (a : Int)) none := rfl
  rw [e, this]
  show (l.drop (a : Int).toNat).take ((l.length : Int) - (a : Int)).toNat = l.drop a
  rw [show ((a : Int)).toNat = a by omega, List.take_of_length_le (by rw [List.length_drop]; omega)]

theorem strip_base (l : List Nat) (a : Nat) (parts : List Str) (ha : a ≤ l.length) : flat (if a < l.length then parts ++ [Txt.slice ⟨l.toArray⟩ (some (a : Int)) none] else parts) = flat parts ++ l.drop a := by
  by_cases h : a < l.length
  · rw [if_pos h, flat_append]
    show flat parts ++ ((Txt.slice ⟨l.toArray⟩ (some (a : Int)) none).cps.toList ++ []) = _
    rw [slice_end l (by omega), List.append_nil]
  · rw [if_neg h, List.drop_eq_nil_of_le (by omega), List.append_nil]
theorem step_none (txt : Str) (a p : Nat) (parts : List Str) : stripStep txt (a, none, parts) (p, ⟨#[34]⟩) = (a, some p, parts) := rfl
theorem step_some (txt : Str) (a o p : Nat) (parts : List Str) : stripStep txt (a, some o, parts) (p, ⟨#[34]⟩) = (p + 1, none, if a = o then parts else parts ++ [Txt.slice txt (some (a : Int)) (some (o : Int))]) := rfl

theorem strip_out (l : List Nat) : ∀ (m : List Nat) (a : Nat) (parts : List Str), m.Pairwise (· < ·) → (∀ k ∈ m, a ≤ k ∧ k < l.length ∧ l.getD k 0 = 34) → a ≤ l.length →
    ∀ st, st = (m.map fun k => (k, (⟨#[l.getD k 0]⟩ : Str))).foldl (stripStep ⟨l.toArray⟩) (a, none, parts) →
      flat (if st.1 < l.length then st.2.2 ++ [Txt.slice ⟨l.toArray⟩ (some (st.1 : Int)) none] else st.2.2) = flat parts ++ out l a m
  | [], a, parts, _, _, ha, st, hst => by subst hst; exact strip_base l a parts ha
  | [o], a, parts, _, hm, ha, st, hst => by
    have hg := (hm o (.head _)).2.2
    subst hst
    rw [List.map_cons, List.map_nil, List.foldl_cons, List.foldl_nil, hg, step_none]
    exact strip_base l a parts ha
  | o :: c :: r, a, parts, hp, hm, ha, st, hst => by
    rw [List.pairwise_cons, List.pairwise_cons] at hp
    obtain ⟨hp1, hp2, hp3⟩ := hp
    have ho := hm o (.head _)
    have hc := hm c (.tail _ (.head _))
    rw [List.map_cons, List.map_cons, List.foldl_cons, List.foldl_cons, ho.2.2, hc.2.2, step_none, step_some] at hst
    rw [strip_out l r (c + 1) _ hp3 (fun k hk => ⟨hp2 k hk, (hm k (.tail _ (.tail _ hk))).2⟩) (by omega) st hst]
    show _ = flat parts ++ ((l.drop a).take (o - a) ++ out l (c + 1) r)
    rw [← List.append_assoc]
    congr 1
    by_cases hao : a = o
    · rw [if_pos hao, hao, Nat.sub_self, List.take_zero, List.append_nil]
    · rw [if_neg hao, flat_append]
      show flat parts ++ ((Txt.slice ⟨l.toArray⟩ (some (a : Int)) (some (o : Int))).cps.toList ++ []) = _
      rw [slice_mid l ho.1 (by omega), List.append_nil]

theorem qquo_one (c : Nat) : qquo ⟨#[c]⟩ = decide (c ∈ [34]) := by
  unfold qquo
  rw [sgn_eq (x := "\"") (k := 34) rfl]
  simp
theorem qquo_two (c : Nat) : qquo ⟨#[92, c]⟩ = false := two_ne (k := 34)

theorem mark_at {l : List Nat} {k : Nat} (h : k ∈ freeN l [34] l.length) : l[k]? = some 34 := by
  unfold freeN at h
  have := (List.mem_filter.mp h).2
  unfold freeP at this
  rw [Bool.and_eq_true] at this
  cases hc : l[k]? with
  | none => rw [hc] at this; exact absurd this.1 (by simp)
  | some c =>
    rw [hc] at this
    have h : c ∈ [34] := of_decide_eq_true this.1
    rw [List.mem_singleton.mp h]

theorem plain_strip (l : List Nat) : (stripOut ⟨l.toArray⟩).cps = (restN l (pairsOf (freeN l [34] l.length)) l.length).toArray := by
  rw [restN_out]
  have htl : (⟨l.toArray⟩ : Str).cps.toList = l := rfl
  have hsz : (⟨l.toArray⟩ : Str).cps.size = l.length := List.size_toArray
  unfold stripOut
  rw [htl, hsz]
  by_cases h : 34 ∈ l
  · rw [if_pos h]
    apply Array.toList_inj.mp
    show (Txt.join "" _).cps.toList = out l 0 _
    rw [join_flat]
    have hst : stripSt ⟨l.toArray⟩ (escRest 0 false l).length = ((freeN l [34] l.length).map fun k => (k, (⟨#[l.getD k 0]⟩ : Str))).foldl (stripStep ⟨l.toArray⟩) (0, none, []) := by
      unfold stripSt
      rw [htl, List.take_length, strip_filter, free_filter l [34] qquo qquo_one qquo_two rfl]
    have := strip_out l (freeN l [34] l.length) 0 [] (marks_pair _ _ _) (fun k hk => ⟨Nat.zero_le _, freeN_lt hk, by rw [List.getD_eq_getElem?_getD, mark_at hk]; rfl⟩) (Nat.zero_le _) _ hst
    exact this
  · rw [if_neg h]
    have : freeN l [34] l.length = [] := by
      rw [List.eq_nil_iff_forall_not_mem]
      intro k hk
      exact h (List.mem_of_getElem? (mark_at hk))
    rw [this]; rfl

theorem plain_all (l : List Nat) : Plain l := ⟨plain_due l, plain_strip l, fun r _ => plain_par r⟩
end Mine

namespace Mine

theorem base_of_top {p : Program} {loose : List Str} {mean : ExcName → Option Value} {mg mb : Str → Option Value} {h : Heap} (T : Top p loose mean mg mb h)
    (hr : ∀ d ∈ theDefs, d ∈ recsOf p) (hf : ∀ q ∈ theBi, q.1 ∉ startupNames ∧ q.1 ∉ loose ∧ q.1 ∉ (recsOf p).map (·.name) ∧ q.1 ∉ (litsOf p).map (·.1) ∧ q.1 ∉ (clssOf p loose).map (·.name)) : Base mg mb h where
  g := T.g
  b := T.b
  nl := T.nolimit
  fn := fun d hd => by
    obtain ⟨a, o, pm, cd, doc, h1, h2, h3, h4⟩ := T.fn d (hr d hd)
    exact ⟨a, h1, o, pm, cd, doc, h2, h3, h4⟩
  bi := fun q hq => by
    obtain ⟨h1, h2, h3, h4, h5⟩ := hf q hq
    refine ⟨T.free q.1 h1 h2 h3 h4 h5, ?_⟩
    have hn : ∀ q ∈ theBi, q.1 ≠ "__name__" := by decide +kernel
    have hv : ∀ q ∈ theBi, bootBuiltins q.1 = some q.2 := by
      intro q hq
      simp only [theBi, List.mem_cons, List.not_mem_nil, or_false] at hq
      rcases hq with rfl | rfl | rfl | rfl | rfl <;> kernel_rfl
    rw [T.builtins q.1 (hn q hq)]; exact hv q hq
theorem rec_of {p : Program} {d : DefRec} {n : Str} (h : (recsOf p).find? (fun e => e.name == n) = some d) : d ∈ recsOf p := List.mem_of_find?_eq_some h
end Mine

set_option maxRecDepth 100000 in
set_option maxHeartbeats 8000000 in
theorem PySem.Challenge.cw_wv0002_01_holds : PySem.Challenge.rw_wv0002_01.Holds := by
  (w_on; o_law; k_head; (case hw => w_witness2); skip)
  k_fill
  intro w s₀ s₁ mg mb G Y fa o pm cd doc dV kV ho hd hcd hD hmg hg args vals as hpre hlay hrd hwl hlo
  refine Ground.open G ?_
  intro T B D TE TW
  wrow_args hpre hlay hrd hwl hlo
  clear hd hD B D TE TW Y
  have hbase := Mine.base_of_top T (by
    intro d hd
    simp only [Mine.theDefs, List.mem_cons, List.not_mem_nil, or_false] at hd
    rcases hd with rfl | rfl | rfl | rfl | rfl
    · exact Mine.rec_of (n := "_iter_escaped_chars") (by kernel_rfl)
    · exact Mine.rec_of (n := "_strip_quoted_realnames") (by kernel_rfl)
    · exact Mine.rec_of (n := "_check_parenthesis") (by kernel_rfl)
    · exact Mine.rec_of (n := "_law_ahead") (by kernel_rfl)
    · exact Mine.rec_of (n := "_law_free") (by kernel_rfl)) (by decide +kernel)
  obtain ⟨a', o', pm', cd', doc', h1, h2, h3, h4⟩ := T.fn Mine.dLaw (Mine.rec_of (n := "law") (by kernel_rfl))
  have hfa : a' = fa := by
    have h5 : mg Mine.dLaw.name = some (.ref fa) := hmg
    rw [h1] at h5; injection h5 with h5; injection h5
  subst hfa
  refine Mine.law_spec (mg := mg) (mb := mb) hbase ⟨rfl, by decide +kernel, by decide +kernel⟩ ⟨o', pm', cd', doc', h2, h3, h4⟩ (by assumption) (by assumption) (by omega) (by rw [hg]; intro x hx; simp at hx) (Mine.plain_all _) fun g' s' hb M => ?_
  refine ⟨.inl ⟨_, _, [], rfl, fun _ => rfl, ReadsW.bool true, ?_, fun _ => ⟨List.nodup_nil, fun _ h => nomatch h⟩⟩, OldK.of_keep M.keep, M.os, ?_⟩
  · wrow_post
  · rw [M.gens]; exact hb

